import Derived.Test.Qxb6602599aDoorScan
import Derived.Deep.Cut
import Derived.Deep.CutRange
namespace Go.Proofs.Qxb6602599aDoor
open Go.RowKit
open Go

structure Now (b : Nat) (vl vn vd : Value) (w : World) (S : M.St) (xs : List Int) (k : Nat) (Sc : M.St) (wr : World) : Prop where
  left : Left b vl vn vd w Sc wr
  inv : M.Inv Sc
  begun : k < xs.length → Sc.begun = true
  scan : M.scan S xs = M.shift k (M.scan Sc (xs.drop k))

set_option maxHeartbeats 1600000 in
theorem skip_zero {w : World} {b : Nat} {S : M.St} {z : Int} {vl vn vd : Value} (h : Str w b S z vl vn vd) (p : Option Addr) (c : Nat) (hbom : S.bom ≤ 2) :
    Calls Tryd.prog 18 #[.pointer (some ⟨b, 0, none⟩), .slice p 0 c] w fun e w' => e = .returned (.int .i64 0) ∧ Left b vl vn vd w S w' := by
  have e0 : ((⟨#[239, 187, 191]⟩ : ByteArray)[0]'(by decide)).toNat = 239 := rfl
  go_enter Tryd.func18, Tryd.ntmps18
  go_wp2
  refine wp_loop_rounds 1 ?_
  rw [rounds_succ]
  have HL : Hid (∀ q, Left b vl vn vd w S (w.drewN q)) := fun q => ⟨z, vl, vn, vd, h.kept (Fr.drewN (F := fun _ => False) w q) (fun _ _ e => e), goes_b (Fr.drewN w q)⟩
  obtain ⟨c0, c1, c2, c3, c4, c5, c6, c7, c8, c9, c10, c11, c12⟩ := h.cells
  have hfree := h.free
  clear c4 c5 c6 c7 c8 c9 c10 c11 c12 h
  have hd : decide ((0 : Int) < (0 : Int)) = false := by decide
  obtain ⟨m, hm⟩ : ∃ m, m = S.bom := ⟨_, rfl⟩
  rw [← hm] at c2
  have hm2 : m ≤ 2 := by omega
  clear hm hbom
  obtain rfl | rfl | rfl : m = 0 ∨ m = 1 ∨ m = 2 := by omega
  · go_wp2
    go_quiet (fail)
    go_wp2
    go_ret
    exact ⟨rfl, HL.out _⟩
  · go_wp2
    go_quiet (fail)
    go_wp2
    go_ret
    exact ⟨rfl, HL.out _⟩
  · go_wp2
    go_quiet (fail)
    go_wp2
    go_ret
    exact ⟨rfl, HL.out _⟩

theorem now_zero {w : World} {b : Nat} {S : M.St} {z : Int} {vl vn vd : Value} (h : Str w b S z vl vn vd) (hI : M.Inv S) (hg : S.begun = true) (xs : List Int) : Now b vl vn vd w S xs 0 S w :=
  ⟨Left.refl h, hI, fun _ => hg, by rw [M.shift_zero, List.drop_zero]⟩

theorem skip_begun {S : M.St} {xs : List Int} (h : M.bomRun S.bom xs < xs.length) : (M.skip S xs).begun = true := by
  unfold M.skip
  split
  · rfl
  · first | exact M.begin_begun _ | (rw [if_pos h]; exact M.begin_begun _)

theorem now_skip {w w1 : World} {b : Nat} {S : M.St} {vl vn vd : Value} (hI : M.Inv S) (hg : S.begun = false) (xs : List Int) (hl : Left b vl vn vd w (M.skip S xs) w1) : Now b vl vn vd w S xs (M.bomRun S.bom xs) (M.skip S xs) w1 :=
  ⟨hl, M.inv_skip hI hg xs, skip_begun, M.scan_skip xs S hg hI.bom2⟩

theorem Left.facts {w w' : World} {b : Nat} {S' : M.St} {vl vn vd : Value} {m : Int} {pb po n : Nat} {xs : List Int} (hl : Left b vl vn vd w S' w') (HE : Env w m) (hlow : ∀ k, Foot b vl vn vd k → 3 ≤ k)
    (hc : ∀ i, i < n → w.cell? ⟨pb, po + i, none⟩ = some (.int .u8 (xs.getD i 0))) (hpb : 0 < n → ¬ Foot b vl vn vd pb) (h0 : 0 < n) :
    ∃ z1 l1 n1 d1, Str w' b S' z1 l1 n1 d1 ∧ Goes b vl vn vd l1 n1 d1 w w' ∧ Env w' m ∧ (∀ k, Foot b l1 n1 d1 k → 3 ≤ k) ∧ ¬ Foot b l1 n1 d1 pb ∧ (∀ i, i < n → w'.cell? ⟨pb, po + i, none⟩ = some (.int .u8 (xs.getD i 0))) := by
  obtain ⟨z1, l1, n1, d1, hs, hg⟩ := hl
  have h3 : 3 ≤ w.heap.size := by have := World.block_lt_of_cell? w _ (HE.2.2 0 (by omega)).1; simp at this; omega
  have hlt := World.block_lt_of_cell? w _ (hc 0 h0)
  refine ⟨z1, l1, n1, d1, hs, hg, HE.kept hg.fr hlow, ?_, ?_, ?_⟩
  · intro k hk
    rcases hg.foot k hk with h1 | h1
    · exact hlow k h1
    · omega
  · intro hk
    rcases hg.foot pb hk with h1 | h1
    · exact hpb h0 h1
    · simp at hlt; omega
  · intro i hi
    rw [hg.fr.cell (p := ⟨pb, po + i, none⟩) hlt (hpb h0)]; exact hc i hi

theorem drop_cons {xs : List Int} {k : Nat} (hk : k < xs.length) : xs.drop k = xs.getD k 0 :: xs.drop (k + 1) := by
  rw [List.drop_eq_getElem_cons hk]; simp [List.getD, hk]

theorem Str.setAt {w : World} {b : Nat} {S : M.St} {z : Int} {vl vn vd : Value} (h : Str w b S z vl vn vd) (a : Int) : Str (w.setCell ⟨b, 0, none⟩ (.int .u8 a)) b { S with at_ := a } z vl vn vd :=
  ⟨(blk_set h.blk).trans (by simp [blkOf]), h.size, own_set h.blk h.line, own_set h.blk h.name, own_set h.blk h.data, h.ln, h.ld, h.nd⟩
theorem Str.setField {w : World} {b : Nat} {S : M.St} {z : Int} {vl vn vd : Value} (h : Str w b S z vl vn vd) : Str ((w.setCell ⟨b, 0, none⟩ (.int .u8 3)).setCell ⟨b, 1, none⟩ (.bool true)) b { S with at_ := 3, pending := true } z vl vn vd := by
  have hb := blk_set (k := 0) (u := .int .u8 3) h.blk
  exact ⟨(blk_set hb).trans (by simp [blkOf]), h.size, own_set hb (own_set h.blk h.line), own_set hb (own_set h.blk h.name), own_set hb (own_set h.blk h.data), h.ln, h.ld, h.nd⟩
theorem left_setAt {w w' : World} {b : Nat} {S : M.St} {vl vn vd : Value} (h : Left b vl vn vd w S w') (a : Int) : Left b vl vn vd w { S with at_ := a } (w'.setCell ⟨b, 0, none⟩ (.int .u8 a)) := by
  obtain ⟨z1, l1, n1, d1, hs, hg⟩ := h
  exact ⟨z1, l1, n1, d1, hs.setAt a, hg.trans (goes_b (Fr.set_b (Fr.b0 b w') _))⟩
theorem left_setField {w w' : World} {b : Nat} {S : M.St} {vl vn vd : Value} (h : Left b vl vn vd w S w') : Left b vl vn vd w { S with at_ := 3, pending := true } ((w'.setCell ⟨b, 0, none⟩ (.int .u8 3)).setCell ⟨b, 1, none⟩ (.bool true)) := by
  obtain ⟨z1, l1, n1, d1, hs, hg⟩ := h
  exact ⟨z1, l1, n1, d1, hs.setField, hg.trans (goes_b (Fr.set_b (Fr.set_b (Fr.b0 b w') _) _))⟩

structure Hand (w : World) (b : Nat) (vl vn vd : Value) (m : Int) (pb po n c : Nat) (xs : List Int) : Prop where
  env : Env w m
  low : ∀ k, Foot b vl vn vd k → 3 ≤ k
  cells : ∀ i, i < n → w.cell? ⟨pb, po + i, none⟩ = some (.int .u8 (xs.getD i 0))
  far : 0 < n → ¬ Foot b vl vn vd pb
  len : xs.length = n
  cap : n ≤ c
  max : n ≤ 1048576
  isB : IsB xs

section
variable {w W : World} {b : Nat} {vl vn vd : Value} {m : Int} {pb po n c : Nat} {xs : List Int} {SX : M.St}

theorem Left.any (hl : Left b vl vn vd w SX W) (H : Hand w b vl vn vd m pb po n c xs) (k : Nat) (hk : k < n) :
    Calls Tryd.prog 20 #[.slice (some ⟨pb, po + k, none⟩) (n - k) (c - k), .string ⟨#[13, 10]⟩] W fun e w1 => e = .returned (.int .i64 (M.brkI (xs.drop k))) ∧ Left b vl vn vd w SX w1 := by
  obtain ⟨z1, l1, n1, d1, hs, hg, henv, hlow, hpb, hc⟩ := hl.facts H.env H.low H.cells H.far (by omega)
  have hcap := H.cap
  have hmax := H.max
  have hlen := H.len
  refine (any_crlf pb (po + k) (n - k) (c - k) (xs.drop k) W m henv (by simp; omega) (fun x hx => H.isB x (List.mem_of_mem_drop hx)) (fun i hi => ?_) (by omega) (by omega) (by omega)).mono ?_
  · rw [Nat.add_assoc, hc (k + i) (by omega)]; simp [List.getD]
  · rintro e w1 ⟨rfl, hf⟩
    exact ⟨rfl, z1, l1, n1, d1, hs.kept hf (fun _ _ e => e), hg.trans ⟨hf.mono (fun _ e => e.elim), fun _ e => .inl e⟩⟩

theorem Left.keep (hl : Left b vl vn vd w SX W) (H : Hand w b vl vn vd m pb po n c xs) (hI : M.Inv SX) (k j cc : Nat) (hk : k < n) (hj : j ≤ n - k) :
    Calls Tryd.prog 21 #[.pointer (some ⟨b, 0, none⟩), .slice (some ⟨pb, po + k, none⟩) j cc] W fun e w1 => e = .returned (.tuple #[]) ∧ Left b vl vn vd w (M.keep SX ((xs.drop k).take j)) w1 := by
  obtain ⟨z1, l1, n1, d1, hs, hg, henv, hlow, hpb, hc⟩ := hl.facts H.env H.low H.cells H.far (by omega)
  have hmax := H.max
  have hlen := H.len
  refine (keep_str hs j cc ⟨pb, po + k, none⟩ ((xs.drop k).take j) (by simp; omega) (fun _ => ⟨_, _, rfl, fun i hi => ?_⟩) (fun _ => hpb) hI.max hI.line (by omega)).mono ?_
  · rw [Nat.add_assoc, hc (k + i) (by omega)]; simp [List.getD, hi]
  · rintro e w1 ⟨rfl, h1⟩
    exact ⟨rfl, Left.trans hg h1⟩

theorem Left.lineEnd (hl : Left b vl vn vd w SX W) (hI : M.Inv SX) :
    Calls Tryd.prog 22 #[.pointer (some ⟨b, 0, none⟩)] W fun e w1 => e = .returned (.tuple #[]) ∧ Left b vl vn vd w (M.lineEnd SX) w1 := by
  obtain ⟨z1, l1, n1, d1, hs, hg⟩ := hl
  exact (line_str hs hI.line hI.data hI.bl).mono fun e w1 ⟨h1, h2⟩ => ⟨h1, Left.trans hg h2⟩

theorem Left.empty (hl : Left b vl vn vd w SX W) (hI : M.Inv SX) (pe : Bool) (hp : SX.pending = pe) :
    Calls Tryd.prog 19 #[.pointer (some ⟨b, 0, none⟩)] W fun e w1 => e = .returned (.bool pe) ∧ Left b vl vn vd w (M.emptyLine SX) w1 := by
  subst hp
  obtain ⟨z1, l1, n1, d1, hs, hg⟩ := hl
  exact (empty_str hs hI.hd hI.data).mono fun e w1 ⟨h1, h2⟩ => ⟨h1, Left.trans hg h2⟩
end

theorem Now.step {b : Nat} {vl vn vd : Value} {w wr w' : World} {S Sc S' : M.St} {xs : List Int} {k j : Nat} (h : Now b vl vn vd w S xs k Sc wr) (hl : Left b vl vn vd w S' w') (hi : M.Inv S') (hb : S'.begun = true)
    (hs : M.scan Sc (xs.drop k) = M.shift j (M.scan S' (xs.drop (k + j)))) : Now b vl vn vd w S xs (k + j) S' w' :=
  ⟨hl, hi, fun _ => hb, by rw [h.scan, hs, M.shift_shift]⟩

theorem Now.fin {b : Nat} {vl vn vd : Value} {w wr w' : World} {S Sc S' : M.St} {xs : List Int} {k j : Nat} {f : Bool} (h : Now b vl vn vd w S xs k Sc wr) (hl : Left b vl vn vd w S' w') (hs : M.scan Sc (xs.drop k) = (S', j, f)) :
    Ending.returned (.tuple #[.int .i64 ((k + j : Nat) : Int), .bool f]) = .returned (.tuple #[.int .i64 (M.scan S xs).2.1, .bool (M.scan S xs).2.2]) ∧ Left b vl vn vd w (M.scan S xs).1 w' := by
  rw [h.scan, hs]
  exact ⟨rfl, hl⟩

set_option maxHeartbeats 3200000 in
set_option maxRecDepth 1000000 in
theorem take_any {w : World} {b : Nat} {S : M.St} {z : Int} {vl vn vd : Value} (h : Str w b S z vl vn vd) (hI : M.Inv S) (m : Int) (henv : Env w m) (hlow : ∀ k, Foot b vl vn vd k → 3 ≤ k) (pb po n c : Nat) (xs : List Int) (hx : xs.length = n) (hnc : n ≤ c) (hn : n ≤ 1048576) (hB : IsB xs)
    (hc : ∀ i, i < n → w.cell? ⟨pb, po + i, none⟩ = some (.int .u8 (xs.getD i 0))) (hpb : 0 < n → ¬ Foot b vl vn vd pb) :
    Calls Tryd.prog 14 #[.pointer (some ⟨b, 0, none⟩), .slice (some ⟨pb, po, none⟩) n c] w fun e w' => e = .returned (.tuple #[.int .i64 (M.scan S xs).2.1, .bool (M.scan S xs).2.2]) ∧ Left b vl vn vd w (M.scan S xs).1 w' := by
  have HX : Hid (xs.length = n) := hx
  have HB : Hid (IsB xs) := hB
  have HE : Hid (Env w m) := henv
  have HC : Hid (∀ i, i < n → w.cell? ⟨pb, po + i, none⟩ = some (.int .u8 (xs.getD i 0))) := hc
  have HH : Hid (Hand w b vl vn vd m pb po n c xs) := ⟨henv, hlow, hc, hpb, hx, hnc, hn, hB⟩
  have c3 := h.cells.2.2.2.1
  have HS : Hid (Str w b S z vl vn vd ∧ M.Inv S) := ⟨h, hI⟩
  have hskip := fun hbg : S.begun = false => skip_any h pb po n c xs hx hn hc hpb hI.bom2 hI.max hI.line
  clear hx hB henv hc h hI
  go_enter Tryd.func14, Tryd.ntmps14
  go_upto_if 12 with fail
  go_cut [4] from 11 (fun s4 w1 => ∃ (k : Nat) (Sc : M.St), s4 = .int .i64 k ∧ k ≤ n ∧ Now b vl vn vd w S xs k Sc w1)
  case first =>
    cases hg : S.begun
    · have hsk := hskip hg
      rw [hg] at c3
      clear hskip
      go_wp2_with (go_at_call 18; refine hsk.mono ?_; rintro e w1 ⟨rfl, hl⟩)
      go_meet
      case rel => exact ⟨_, _, rfl, by have := M.bomRun_le xs S.bom; rw [HX.out] at this; exact this, now_skip HS.out.2 hg xs hl⟩
    · rw [hg] at c3
      clear hskip
      go_wp2
      go_meet
      case rel => exact ⟨0, S, rfl, Nat.zero_le _, now_zero HS.out.1 HS.out.2 hg xs⟩
  case rest =>
    obtain ⟨k0, S0, rfl, hk0, hnow0⟩ := hcut
    clear hskip c3
    go_wp2
    go_loopg [4] (2 * n + 2) (fun g s4 wx => ∃ (k : Nat) (Sc : M.St), 2 * (n - k) + (if Sc.at_ = 1 then 1 else 0) ≤ g ∧ s4 = .int .i64 k ∧ k ≤ n ∧ Now b vl vn vd w S xs k Sc wx)
    case atStart => exact ⟨k0, S0, by split <;> omega, rfl, hk0, hnow0⟩
    case round =>
      clear hnow0 hk0
      obtain ⟨k, Sc, hg, rfl, hk, hnow⟩ := hrel
      by_cases hkn : k < n
      · have hkz : (k : Int) < (n : Int) := by omega
        have hkx : k < xs.length := by rw [HX.out]; exact hkn
        have hbg := hnow.begun hkx
        obtain ⟨z1, l1, n1, d1, hs, hgo, henv, hlow1, hpb1, hcr⟩ := hnow.left.facts HE.out hlow HC.out hpb (by omega)
        obtain ⟨c0, c1, c2, c3, c4, c5, c6, c7, c8, c9, c10, c11, c12⟩ := hs.cells
        have hfree := hs.free
        have hci := hcr k hkn
        have hxi : 0 ≤ xs.getD k 0 ∧ xs.getD k 0 < 256 := HB.out _ (by simp [List.getD, hkx])
        have HN : Hid (Now b vl vn vd w S xs k Sc wr) := hnow
        have HS1 : Hid _ := hs
        have HI : Hid (M.Inv Sc) := hnow.inv
        have HD : Hid (xs.drop k = xs.getD k 0 :: xs.drop (k + 1)) := drop_cons hkx
        have HBG : Hid (Sc.begun = true) := hbg
        have HCR : Hid _ := hcr
        have HV : Hid (Env wr m) := henv
        clear c2 c3 c4 c5 c6 c7 c8 c9 c10 c11 c12 hs hcr hnow hgo henv hbg hkx
        obtain ⟨X, hX⟩ : ∃ X, X = xs.getD k 0 := ⟨_, rfl⟩
        rw [← hX] at hci hxi
        have HXX : Hid (X = xs.getD k 0) := hX
        clear hX
        have hci0 : ∀ v, (wr.setCell ⟨b, 0, none⟩ v).cell? ⟨pb, po + k, none⟩ = some (.int .u8 X) := fun v => by
          rw [World.cell?_setCell_other _ _ _ _ (fun e => hpb1 (.inl (congrArg Addr.block e).symm))]; exact hci
        have hck : ¬ c = k := by omega
        rcases HI.out.at4 with hat | hat | hat | hat
        ·
          rw [hat] at c0
          have HA : Hid (Sc.at_ = 0) := hat
          rw [hat, if_neg (by decide)] at hg
          clear hat
          by_cases h13 : X = 13
          · subst h13
            cases hpe : Sc.pending
            · have hem' := (left_setAt HN.out.left 1).empty (SX := { Sc with at_ := 1 }) (M.inv_at HI.out (by rw [HA.out]; decide) (.inr (.inl rfl))) false hpe
              have HP : Hid (Sc.pending = false) := hpe
              clear hpe
              cases gk with
              | zero => omega
              | succ g =>
              go_wp2_with (go_at_call 19; refine hem'.mono ?_; rintro e w1 ⟨rfl, hl1⟩)
              have HL1 : Hid _ := hl1
              clear hl1
              go_roundg g
              case measure => omega
              case rel =>
                refine ⟨k + 1, _, ?_, by first | rfl | simp, by omega, HN.out.step (j := 1) HL1.out (M.inv_empty (M.inv_at HI.out (by rw [HA.out]; decide) (.inr (.inl rfl))) (by first | (rw [HA.out]; decide) | (show (1 : Int) ≠ 3; decide))) (by rw [M.empty_begun]; exact HBG.out) ?_⟩
                · rw [M.empty_at]; split <;> omega
                · rw [HD.out, ← HXX.out, M.scan_empty_on HBG.out HA.out rfl HP.out, if_pos rfl]
            · have hem' := (left_setAt HN.out.left 1).empty (SX := { Sc with at_ := 1 }) (M.inv_at HI.out (by rw [HA.out]; decide) (.inr (.inl rfl))) true hpe
              have HP : Hid (Sc.pending = true) := hpe
              clear hpe
              go_wp2_with (go_at_call 19; refine hem'.mono ?_; rintro e w1 ⟨rfl, hl1⟩)
              go_ret2
              exact HN.out.fin (j := 1) hl1 (by rw [HD.out, ← HXX.out, M.scan_empty_end HBG.out HA.out rfl HP.out, if_pos rfl])
          · by_cases h10 : X = 10
            · subst h10
              cases hpe : Sc.pending
              · have hem' := (HN.out.left).empty (SX := Sc) HI.out false hpe
                have HP : Hid (Sc.pending = false) := hpe
                clear hpe
                cases gk with
                | zero => omega
                | succ g =>
                go_wp2_with (go_at_call 19; refine hem'.mono ?_; rintro e w1 ⟨rfl, hl1⟩)
                have HL1 : Hid _ := hl1
                clear hl1
                go_roundg g
                case measure => omega
                case rel =>
                  refine ⟨k + 1, _, ?_, by first | rfl | simp, by omega, HN.out.step (j := 1) HL1.out (M.inv_empty HI.out (by first | (rw [HA.out]; decide) | (show (1 : Int) ≠ 3; decide))) (by rw [M.empty_begun]; exact HBG.out) ?_⟩
                  · rw [M.empty_at]; split <;> omega
                  · rw [HD.out, ← HXX.out, M.scan_empty_on HBG.out HA.out rfl HP.out, if_neg (show ¬ (10 : Int) = 13 by decide)]
              · have hem' := (HN.out.left).empty (SX := Sc) HI.out true hpe
                have HP : Hid (Sc.pending = true) := hpe
                clear hpe
                go_wp2_with (go_at_call 19; refine hem'.mono ?_; rintro e w1 ⟨rfl, hl1⟩)
                go_ret2
                exact HN.out.fin (j := 1) hl1 (by rw [HD.out, ← HXX.out, M.scan_empty_end HBG.out HA.out rfl HP.out, if_neg (show ¬ (10 : Int) = 13 by decide)])
            · have h13' : (X == 13) = false := by simpa using h13
              have h10' : (X == 10) = false := by simpa using h10
              by_cases h58 : X = 58
              · subst h58
                have HLX := left_setAt HN.out.left 2
                have HIX : Hid (M.Inv { Sc with at_ := 2 }) := M.inv_at HI.out (by rw [HA.out]; decide) (.inr (.inr rfl))
                have hany := HLX.any HH.out k hkn
                clear HLX
                by_cases hbr : M.brk (xs.drop k) < (xs.drop k).length
                · obtain ⟨i, hi⟩ : ∃ i, i = M.brk (xs.drop k) := ⟨_, rfl⟩
                  have hv : M.brkI (xs.drop k) = (i : Int) := by rw [M.brkI, if_pos hbr, hi]
                  rw [hv] at hany
                  have hin : k + i < n := by rw [List.length_drop, HX.out, ← hi] at hbr; omega
                  have HBR : Hid _ := hbr
                  have HII : Hid (i = M.brk (xs.drop k)) := hi
                  clear hv hi hbr
                  have hinz : (k : Int) + (i : Int) < (n : Int) := by omega
                  go_wp2_with fail
                  refine hany.mono ?_
                  rintro e w1 ⟨rfl, hl1⟩
                  have hkeep := fun cc => hl1.keep HH.out HIX.out k i cc hkn (by omega)
                  clear hl1 hany
                  go_wp2_with fail
                  refine (hkeep _).mono ?_
                  rintro e w2 ⟨rfl, hl2⟩
                  have HIK : Hid (M.Inv (M.keep { Sc with at_ := 2 } ((xs.drop k).take i))) := M.inv_keep HIX.out (fun x hx => HB.out x (List.mem_of_mem_drop (List.mem_of_mem_take hx)))
                  have hle := hl2.lineEnd HIK.out
                  clear hkeep hl2
                  go_wp2_with fail
                  refine hle.mono ?_
                  rintro e w3 ⟨rfl, hl3⟩
                  obtain ⟨z3, l3, n3, d3, hs3, _, _, _, _, hc3⟩ := hl3.facts HE.out hlow HC.out hpb (by omega)
                  have c03 := hs3.cells.1
                  have f03 := hs3.free
                  have hci3 := hc3 (k + i) hin
                  have HL3 : Hid (Left b vl vn vd w (M.lineEnd (M.keep { Sc with at_ := 2 } ((xs.drop k).take i))) w3) := hl3
                  clear hs3 hc3 hl3 hle hci hci0
                  obtain ⟨Y, hY⟩ : ∃ Y, Y = xs.getD (k + i) 0 := ⟨_, rfl⟩
                  rw [← hY] at hci3
                  have HY : Hid (Y = xs.getD (k + i) 0) := hY
                  clear hY
                  cases gk with
                  | zero => omega
                  | succ g =>
                  by_cases hY13 : Y = 13
                  · subst hY13
                    go_wp2
                    go_roundg g
                    case measure => omega
                    case rel =>
                      refine ⟨k + (i + 1), _, ?_, ?_, by omega, HN.out.step (left_setAt HL3.out 1) (M.inv_at (M.inv_lineEnd HIK.out) (by rw [M.lineEnd_at]; decide) (.inr (.inl rfl))) (by simp only [M.lineEnd_begun, M.keep_begun]; exact HBG.out) ?_⟩
                      · simp only [if_true]; omega
                      · first | rfl | (simp; omega)
                      · have hy : (xs.drop k).getD (M.brk (xs.drop k)) 0 = 13 := by rw [← HII.out, HY.out]; simp [List.getD]
                        rw [HD.out, ← HXX.out, M.scan_start_colon HBG.out HA.out, HXX.out, ← HD.out, M.scan_in_line (S := { Sc with at_ := 2 }) HBG.out (.inl rfl) HIX.out.max HBR.out, if_pos hy, ← HII.out, List.drop_drop]
                  · have hYb : (Y == 13) = false := by simpa using hY13
                    go_wp2
                    go_roundg g
                    case measure => omega
                    case rel =>
                      refine ⟨k + (i + 1), _, ?_, ?_, by omega, HN.out.step HL3.out (M.inv_lineEnd HIK.out) (by simp only [M.lineEnd_begun, M.keep_begun]; exact HBG.out) ?_⟩
                      · simp only [M.lineEnd_at]; rw [if_neg (by decide)]; omega
                      · first | rfl | (simp; omega)
                      · have hy : ¬ (xs.drop k).getD (M.brk (xs.drop k)) 0 = 13 := by rw [← HII.out]; intro h; exact hY13 (by rw [HY.out, ← h]; simp [List.getD])
                        rw [HD.out, ← HXX.out, M.scan_start_colon HBG.out HA.out, HXX.out, ← HD.out, M.scan_in_line (S := { Sc with at_ := 2 }) HBG.out (.inl rfl) HIX.out.max HBR.out, if_neg hy, ← HII.out, List.drop_drop]
                · have hv : M.brkI (xs.drop k) = -1 := by rw [M.brkI, if_neg hbr]
                  rw [hv] at hany
                  have HBR : Hid _ := hbr
                  clear hv hbr
                  go_wp2_with fail
                  refine hany.mono ?_
                  rintro e w1 ⟨rfl, hl1⟩
                  have hkeep := hl1.keep HH.out HIX.out k (n - k) (c - k) hkn (Nat.le_refl _)
                  clear hl1 hany
                  go_wp2_with fail
                  refine hkeep.mono ?_
                  rintro e w2 ⟨rfl, hl2⟩
                  clear hkeep
                  go_wp2
                  go_ret2
                  have e1 : (xs.drop k).take (n - k) = xs.drop k := List.take_of_length_le (by rw [List.length_drop, HX.out]; exact Nat.le_refl _)
                  rw [e1] at hl2
                  have e2 : M.scan Sc (xs.drop k) = (M.keep { Sc with at_ := 2 } (xs.drop k), n - k, false) := by
                    rw [HD.out, ← HXX.out, M.scan_start_colon HBG.out HA.out, HXX.out, ← HD.out, M.scan_in_all (S := { Sc with at_ := 2 }) HBG.out (.inl rfl) HIX.out.max HBR.out, List.length_drop, HX.out]
                  have := HN.out.fin hl2 e2
                  rwa [show k + (n - k) = n from by omega] at this
              · have h58' : (X == 58) = false := by simpa using h58
                have HLX := left_setField HN.out.left
                have HIX : Hid (M.Inv { Sc with at_ := 3, pending := true }) := M.inv_field HI.out (by rw [HA.out]; decide) HBG.out
                have hany := HLX.any HH.out k hkn
                clear HLX
                by_cases hbr : M.brk (xs.drop k) < (xs.drop k).length
                · obtain ⟨i, hi⟩ : ∃ i, i = M.brk (xs.drop k) := ⟨_, rfl⟩
                  have hv : M.brkI (xs.drop k) = (i : Int) := by rw [M.brkI, if_pos hbr, hi]
                  rw [hv] at hany
                  have hin : k + i < n := by rw [List.length_drop, HX.out, ← hi] at hbr; omega
                  have HBR : Hid _ := hbr
                  have HII : Hid (i = M.brk (xs.drop k)) := hi
                  clear hv hi hbr
                  have hinz : (k : Int) + (i : Int) < (n : Int) := by omega
                  go_wp2_with fail
                  refine hany.mono ?_
                  rintro e w1 ⟨rfl, hl1⟩
                  have hkeep := fun cc => hl1.keep HH.out HIX.out k i cc hkn (by omega)
                  clear hl1 hany
                  go_wp2_with fail
                  refine (hkeep _).mono ?_
                  rintro e w2 ⟨rfl, hl2⟩
                  have HIK : Hid (M.Inv (M.keep { Sc with at_ := 3, pending := true } ((xs.drop k).take i))) := M.inv_keep HIX.out (fun x hx => HB.out x (List.mem_of_mem_drop (List.mem_of_mem_take hx)))
                  have hle := hl2.lineEnd HIK.out
                  clear hkeep hl2
                  go_wp2_with fail
                  refine hle.mono ?_
                  rintro e w3 ⟨rfl, hl3⟩
                  obtain ⟨z3, l3, n3, d3, hs3, _, _, _, _, hc3⟩ := hl3.facts HE.out hlow HC.out hpb (by omega)
                  have c03 := hs3.cells.1
                  have f03 := hs3.free
                  have hci3 := hc3 (k + i) hin
                  have HL3 : Hid (Left b vl vn vd w (M.lineEnd (M.keep { Sc with at_ := 3, pending := true } ((xs.drop k).take i))) w3) := hl3
                  clear hs3 hc3 hl3 hle hci hci0
                  obtain ⟨Y, hY⟩ : ∃ Y, Y = xs.getD (k + i) 0 := ⟨_, rfl⟩
                  rw [← hY] at hci3
                  have HY : Hid (Y = xs.getD (k + i) 0) := hY
                  clear hY
                  cases gk with
                  | zero => omega
                  | succ g =>
                  by_cases hY13 : Y = 13
                  · subst hY13
                    go_wp2
                    go_roundg g
                    case measure => omega
                    case rel =>
                      refine ⟨k + (i + 1), _, ?_, ?_, by omega, HN.out.step (left_setAt HL3.out 1) (M.inv_at (M.inv_lineEnd HIK.out) (by rw [M.lineEnd_at]; decide) (.inr (.inl rfl))) (by simp only [M.lineEnd_begun, M.keep_begun]; exact HBG.out) ?_⟩
                      · simp only [if_true]; omega
                      · first | rfl | (simp; omega)
                      · have hy : (xs.drop k).getD (M.brk (xs.drop k)) 0 = 13 := by rw [← HII.out, HY.out]; simp [List.getD]
                        rw [HD.out, ← HXX.out, M.scan_start_field HBG.out HA.out (by simp [M.eol, h13', h10']) h58, HXX.out, ← HD.out, M.scan_in_line (S := { Sc with at_ := 3, pending := true }) HBG.out (.inr rfl) HIX.out.max HBR.out, if_pos hy, ← HII.out, List.drop_drop]
                  · have hYb : (Y == 13) = false := by simpa using hY13
                    go_wp2
                    go_roundg g
                    case measure => omega
                    case rel =>
                      refine ⟨k + (i + 1), _, ?_, ?_, by omega, HN.out.step HL3.out (M.inv_lineEnd HIK.out) (by simp only [M.lineEnd_begun, M.keep_begun]; exact HBG.out) ?_⟩
                      · simp only [M.lineEnd_at]; rw [if_neg (by decide)]; omega
                      · first | rfl | (simp; omega)
                      · have hy : ¬ (xs.drop k).getD (M.brk (xs.drop k)) 0 = 13 := by rw [← HII.out]; intro h; exact hY13 (by rw [HY.out, ← h]; simp [List.getD])
                        rw [HD.out, ← HXX.out, M.scan_start_field HBG.out HA.out (by simp [M.eol, h13', h10']) h58, HXX.out, ← HD.out, M.scan_in_line (S := { Sc with at_ := 3, pending := true }) HBG.out (.inr rfl) HIX.out.max HBR.out, if_neg hy, ← HII.out, List.drop_drop]
                · have hv : M.brkI (xs.drop k) = -1 := by rw [M.brkI, if_neg hbr]
                  rw [hv] at hany
                  have HBR : Hid _ := hbr
                  clear hv hbr
                  go_wp2_with fail
                  refine hany.mono ?_
                  rintro e w1 ⟨rfl, hl1⟩
                  have hkeep := hl1.keep HH.out HIX.out k (n - k) (c - k) hkn (Nat.le_refl _)
                  clear hl1 hany
                  go_wp2_with fail
                  refine hkeep.mono ?_
                  rintro e w2 ⟨rfl, hl2⟩
                  clear hkeep
                  go_wp2
                  go_ret2
                  have e1 : (xs.drop k).take (n - k) = xs.drop k := List.take_of_length_le (by rw [List.length_drop, HX.out]; exact Nat.le_refl _)
                  rw [e1] at hl2
                  have e2 : M.scan Sc (xs.drop k) = (M.keep { Sc with at_ := 3, pending := true } (xs.drop k), n - k, false) := by
                    rw [HD.out, ← HXX.out, M.scan_start_field HBG.out HA.out (by simp [M.eol, h13', h10']) h58, HXX.out, ← HD.out, M.scan_in_all (S := { Sc with at_ := 3, pending := true }) HBG.out (.inr rfl) HIX.out.max HBR.out, List.length_drop, HX.out]
                  have := HN.out.fin hl2 e2
                  rwa [show k + (n - k) = n from by omega] at this
        ·
          rw [hat] at c0
          have HA : Hid (Sc.at_ = 1) := hat
          rw [hat, if_pos rfl] at hg
          clear hat
          cases gk with
          | zero => omega
          | succ g =>
          by_cases h10 : X = 10
          · subst h10
            go_wp2
            go_roundg g
            case measure => omega
            case rel =>
              refine ⟨k + 1, { Sc with at_ := 0 }, ?_, by first | rfl | simp, by omega, HN.out.step (left_setAt HN.out.left 0) (M.inv_at HI.out (by rw [HA.out]; decide) (.inl rfl)) HBG.out ?_⟩
              · rw [if_neg (by simp)]; omega
              · rw [HD.out, ← HXX.out, M.scan_cr_lf HBG.out HA.out]
          · have h10' : (X == 10) = false := by simpa using h10
            go_wp2
            go_roundg g
            case measure => omega
            case rel =>
              refine ⟨k, { Sc with at_ := 0 }, ?_, by first | rfl | simp, by omega, HN.out.step (j := 0) (left_setAt HN.out.left 0) (M.inv_at HI.out (by rw [HA.out]; decide) (.inl rfl)) HBG.out ?_⟩
              · rw [if_neg (by simp)]; omega
              · rw [Nat.add_zero, M.shift_zero, HD.out, ← HXX.out, M.scan_cr HBG.out HA.out h10]
        ·
          rw [hat] at c0
          have HA : Hid (Sc.at_ = 2) := hat
          rw [hat, if_neg (by decide)] at hg
          clear hat
          have HLX := HN.out.left
          have HIX : Hid (M.Inv Sc) := HI.out
          have hany := HLX.any HH.out k hkn
          clear HLX
          by_cases hbr : M.brk (xs.drop k) < (xs.drop k).length
          · obtain ⟨i, hi⟩ : ∃ i, i = M.brk (xs.drop k) := ⟨_, rfl⟩
            have hv : M.brkI (xs.drop k) = (i : Int) := by rw [M.brkI, if_pos hbr, hi]
            rw [hv] at hany
            have hin : k + i < n := by rw [List.length_drop, HX.out, ← hi] at hbr; omega
            have HBR : Hid _ := hbr
            have HII : Hid (i = M.brk (xs.drop k)) := hi
            clear hv hi hbr
            have hinz : (k : Int) + (i : Int) < (n : Int) := by omega
            go_wp2_with fail
            refine hany.mono ?_
            rintro e w1 ⟨rfl, hl1⟩
            have hkeep := fun cc => hl1.keep HH.out HIX.out k i cc hkn (by omega)
            clear hl1 hany
            go_wp2_with fail
            refine (hkeep _).mono ?_
            rintro e w2 ⟨rfl, hl2⟩
            have HIK : Hid (M.Inv (M.keep Sc ((xs.drop k).take i))) := M.inv_keep HIX.out (fun x hx => HB.out x (List.mem_of_mem_drop (List.mem_of_mem_take hx)))
            have hle := hl2.lineEnd HIK.out
            clear hkeep hl2
            go_wp2_with fail
            refine hle.mono ?_
            rintro e w3 ⟨rfl, hl3⟩
            obtain ⟨z3, l3, n3, d3, hs3, _, _, _, _, hc3⟩ := hl3.facts HE.out hlow HC.out hpb (by omega)
            have c03 := hs3.cells.1
            have f03 := hs3.free
            have hci3 := hc3 (k + i) hin
            have HL3 : Hid (Left b vl vn vd w (M.lineEnd (M.keep Sc ((xs.drop k).take i))) w3) := hl3
            clear hs3 hc3 hl3 hle hci hci0
            obtain ⟨Y, hY⟩ : ∃ Y, Y = xs.getD (k + i) 0 := ⟨_, rfl⟩
            rw [← hY] at hci3
            have HY : Hid (Y = xs.getD (k + i) 0) := hY
            clear hY
            cases gk with
            | zero => omega
            | succ g =>
            by_cases hY13 : Y = 13
            · subst hY13
              go_wp2
              go_roundg g
              case measure => omega
              case rel =>
                refine ⟨k + (i + 1), _, ?_, ?_, by omega, HN.out.step (left_setAt HL3.out 1) (M.inv_at (M.inv_lineEnd HIK.out) (by rw [M.lineEnd_at]; decide) (.inr (.inl rfl))) (by simp only [M.lineEnd_begun, M.keep_begun]; exact HBG.out) ?_⟩
                · simp only [if_true]; omega
                · first | rfl | (simp; omega)
                · have hy : (xs.drop k).getD (M.brk (xs.drop k)) 0 = 13 := by rw [← HII.out, HY.out]; simp [List.getD]
                  rw [M.scan_in_line (S := Sc) HBG.out (.inl HA.out) HIX.out.max HBR.out, if_pos hy, ← HII.out, List.drop_drop]
            · have hYb : (Y == 13) = false := by simpa using hY13
              go_wp2
              go_roundg g
              case measure => omega
              case rel =>
                refine ⟨k + (i + 1), _, ?_, ?_, by omega, HN.out.step HL3.out (M.inv_lineEnd HIK.out) (by simp only [M.lineEnd_begun, M.keep_begun]; exact HBG.out) ?_⟩
                · simp only [M.lineEnd_at]; rw [if_neg (by decide)]; omega
                · first | rfl | (simp; omega)
                · have hy : ¬ (xs.drop k).getD (M.brk (xs.drop k)) 0 = 13 := by rw [← HII.out]; intro h; exact hY13 (by rw [HY.out, ← h]; simp [List.getD])
                  rw [M.scan_in_line (S := Sc) HBG.out (.inl HA.out) HIX.out.max HBR.out, if_neg hy, ← HII.out, List.drop_drop]
          · have hv : M.brkI (xs.drop k) = -1 := by rw [M.brkI, if_neg hbr]
            rw [hv] at hany
            have HBR : Hid _ := hbr
            clear hv hbr
            go_wp2_with fail
            refine hany.mono ?_
            rintro e w1 ⟨rfl, hl1⟩
            have hkeep := hl1.keep HH.out HIX.out k (n - k) (c - k) hkn (Nat.le_refl _)
            clear hl1 hany
            go_wp2_with fail
            refine hkeep.mono ?_
            rintro e w2 ⟨rfl, hl2⟩
            clear hkeep
            go_wp2
            go_ret2
            have e1 : (xs.drop k).take (n - k) = xs.drop k := List.take_of_length_le (by rw [List.length_drop, HX.out]; exact Nat.le_refl _)
            rw [e1] at hl2
            have e2 : M.scan Sc (xs.drop k) = (M.keep Sc (xs.drop k), n - k, false) := by
              rw [M.scan_in_all (S := Sc) HBG.out (.inl HA.out) HIX.out.max HBR.out, List.length_drop, HX.out]
            have := HN.out.fin hl2 e2
            rwa [show k + (n - k) = n from by omega] at this
        ·
          rw [hat] at c0
          have HA : Hid (Sc.at_ = 3) := hat
          rw [hat, if_neg (by decide)] at hg
          clear hat
          have HLX := HN.out.left
          have HIX : Hid (M.Inv Sc) := HI.out
          have hany := HLX.any HH.out k hkn
          clear HLX
          by_cases hbr : M.brk (xs.drop k) < (xs.drop k).length
          · obtain ⟨i, hi⟩ : ∃ i, i = M.brk (xs.drop k) := ⟨_, rfl⟩
            have hv : M.brkI (xs.drop k) = (i : Int) := by rw [M.brkI, if_pos hbr, hi]
            rw [hv] at hany
            have hin : k + i < n := by rw [List.length_drop, HX.out, ← hi] at hbr; omega
            have HBR : Hid _ := hbr
            have HII : Hid (i = M.brk (xs.drop k)) := hi
            clear hv hi hbr
            have hinz : (k : Int) + (i : Int) < (n : Int) := by omega
            go_wp2_with fail
            refine hany.mono ?_
            rintro e w1 ⟨rfl, hl1⟩
            have hkeep := fun cc => hl1.keep HH.out HIX.out k i cc hkn (by omega)
            clear hl1 hany
            go_wp2_with fail
            refine (hkeep _).mono ?_
            rintro e w2 ⟨rfl, hl2⟩
            have HIK : Hid (M.Inv (M.keep Sc ((xs.drop k).take i))) := M.inv_keep HIX.out (fun x hx => HB.out x (List.mem_of_mem_drop (List.mem_of_mem_take hx)))
            have hle := hl2.lineEnd HIK.out
            clear hkeep hl2
            go_wp2_with fail
            refine hle.mono ?_
            rintro e w3 ⟨rfl, hl3⟩
            obtain ⟨z3, l3, n3, d3, hs3, _, _, _, _, hc3⟩ := hl3.facts HE.out hlow HC.out hpb (by omega)
            have c03 := hs3.cells.1
            have f03 := hs3.free
            have hci3 := hc3 (k + i) hin
            have HL3 : Hid (Left b vl vn vd w (M.lineEnd (M.keep Sc ((xs.drop k).take i))) w3) := hl3
            clear hs3 hc3 hl3 hle hci hci0
            obtain ⟨Y, hY⟩ : ∃ Y, Y = xs.getD (k + i) 0 := ⟨_, rfl⟩
            rw [← hY] at hci3
            have HY : Hid (Y = xs.getD (k + i) 0) := hY
            clear hY
            cases gk with
            | zero => omega
            | succ g =>
            by_cases hY13 : Y = 13
            · subst hY13
              go_wp2
              go_roundg g
              case measure => omega
              case rel =>
                refine ⟨k + (i + 1), _, ?_, ?_, by omega, HN.out.step (left_setAt HL3.out 1) (M.inv_at (M.inv_lineEnd HIK.out) (by rw [M.lineEnd_at]; decide) (.inr (.inl rfl))) (by simp only [M.lineEnd_begun, M.keep_begun]; exact HBG.out) ?_⟩
                · simp only [if_true]; omega
                · first | rfl | (simp; omega)
                · have hy : (xs.drop k).getD (M.brk (xs.drop k)) 0 = 13 := by rw [← HII.out, HY.out]; simp [List.getD]
                  rw [M.scan_in_line (S := Sc) HBG.out (.inr HA.out) HIX.out.max HBR.out, if_pos hy, ← HII.out, List.drop_drop]
            · have hYb : (Y == 13) = false := by simpa using hY13
              go_wp2
              go_roundg g
              case measure => omega
              case rel =>
                refine ⟨k + (i + 1), _, ?_, ?_, by omega, HN.out.step HL3.out (M.inv_lineEnd HIK.out) (by simp only [M.lineEnd_begun, M.keep_begun]; exact HBG.out) ?_⟩
                · simp only [M.lineEnd_at]; rw [if_neg (by decide)]; omega
                · first | rfl | (simp; omega)
                · have hy : ¬ (xs.drop k).getD (M.brk (xs.drop k)) 0 = 13 := by rw [← HII.out]; intro h; exact hY13 (by rw [HY.out, ← h]; simp [List.getD])
                  rw [M.scan_in_line (S := Sc) HBG.out (.inr HA.out) HIX.out.max HBR.out, if_neg hy, ← HII.out, List.drop_drop]
          · have hv : M.brkI (xs.drop k) = -1 := by rw [M.brkI, if_neg hbr]
            rw [hv] at hany
            have HBR : Hid _ := hbr
            clear hv hbr
            go_wp2_with fail
            refine hany.mono ?_
            rintro e w1 ⟨rfl, hl1⟩
            have hkeep := hl1.keep HH.out HIX.out k (n - k) (c - k) hkn (Nat.le_refl _)
            clear hl1 hany
            go_wp2_with fail
            refine hkeep.mono ?_
            rintro e w2 ⟨rfl, hl2⟩
            clear hkeep
            go_wp2
            go_ret2
            have e1 : (xs.drop k).take (n - k) = xs.drop k := List.take_of_length_le (by rw [List.length_drop, HX.out]; exact Nat.le_refl _)
            rw [e1] at hl2
            have e2 : M.scan Sc (xs.drop k) = (M.keep Sc (xs.drop k), n - k, false) := by
              rw [M.scan_in_all (S := Sc) HBG.out (.inr HA.out) HIX.out.max HBR.out, List.length_drop, HX.out]
            have := HN.out.fin hl2 e2
            rwa [show k + (n - k) = n from by omega] at this
      · have hkz : ¬ (k : Int) < (n : Int) := by omega
        obtain rfl : k = n := by omega
        have HN : Hid _ := hnow
        clear hnow
        go_wp2
        go_ret2
        have e : M.scan Sc (xs.drop k) = (Sc, 0, false) := by rw [List.drop_eq_nil_of_le (by rw [HX.out]; exact Nat.le_refl _)]; rfl
        exact HN.out.fin HN.out.left e
end Go.Proofs.Qxb6602599aDoor
