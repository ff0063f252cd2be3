import Derived.Test.Qxb6602599aDoorAny
import Derived.Lib.IndexEntry
namespace Go.Proofs.Qxb6602599aDoor
open Go.RowKit
open Go

def Env (w : World) (m : Int) : Prop := w.cell? ⟨0, 0, none⟩ = some (.int .i64 m) ∧ Lib.Utf8Tabs 1 2 w

theorem Env.kept {w w' : World} {m : Int} {F : Nat → Prop} (h : Env w m) (hf : Fr F w w') (hF : ∀ k, F k → 3 ≤ k) : Env w' m := by
  have h0 : ¬ F 0 := fun e => by have := hF 0 e; omega
  have h1 : ¬ F 1 := fun e => by have := hF 1 e; omega
  have h2 : ¬ F 2 := fun e => by have := hF 2 e; omega
  refine ⟨?_, fun c hc => ?_, fun i hi => ⟨?_, ?_⟩⟩
  · rw [hf.cell (p := ⟨0, 0, none⟩) (World.block_lt_of_cell? w _ h.1) h0]; exact h.1
  · rw [hf.cell (p := ⟨1, c, none⟩) (World.block_lt_of_cell? w _ (h.2.1 c hc)) h1]; exact h.2.1 c hc
  · rw [hf.cell (p := ⟨2, 2 * i, none⟩) (World.block_lt_of_cell? w _ (h.2.2 i hi).1) h2]; exact (h.2.2 i hi).1
  · rw [hf.cell (p := ⟨2, 2 * i + 1, none⟩) (World.block_lt_of_cell? w _ (h.2.2 i hi).2) h2]; exact (h.2.2 i hi).2

def runeWidth (R K : Nat) : Prop := R = 65533 ∨ (K = 2 ∧ R < 2048) ∨ (K = 3 ∧ 2048 ≤ R ∧ R < 65536 ∧ (R < 55296 ∨ 57344 ≤ R)) ∨ (K = 4 ∧ 65536 ≤ R)

theorem dec_any (w : World) (m : Int) (pb po n c i : Nat) (xs : List Int) (henv : Env w m) (hx : xs.length = n) (hB : IsB xs) (hc : ∀ j, j < n → w.cell? ⟨pb, po + j, none⟩ = some (.int .u8 (xs.getD j 0))) (hi : i < n) (h128 : 128 ≤ xs.getD i 0) :
    Calls Tryd.prog 30 #[.slice (some ⟨pb, po + i, none⟩) (n - i) c] w fun e w' => Fr (fun _ => False) w w' ∧ ∃ R K : Nat, e = .returned (.tuple #[.int .i32 R, .int .i64 K]) ∧ 1 ≤ K ∧ i + K ≤ n ∧
      (∀ j, i ≤ j → j < i + K → 128 ≤ xs.getD j 0) ∧ 128 ≤ R ∧ R ≤ 1114111 ∧ runeWidth R K := by
  have hxb : ∀ j, j < n → 0 ≤ xs.getD j 0 ∧ xs.getD j 0 < 256 := fun j hj => hB _ (by
    have h : j < xs.length := by omega
    simp [List.getD, h])
  obtain ⟨s, hs⟩ : ∃ s : ByteArray, s = strOfNums (xs.drop i) := ⟨_, rfl⟩
  have hsz : s.size = n - i := by rw [hs, strOfNums_size]; simp; omega
  have hget : ∀ j, j < n - i → ((s.get! j).toNat : Int) = xs.getD (i + j) 0 := by
    intro j hj
    have hb := hxb (i + j) (by omega)
    have hl : j < (xs.drop i).length := by simp; omega
    have e : s.get! j = UInt8.ofNat (xs.getD (i + j) 0).toNat := by
      rw [hs]
      show ((xs.drop i).map fun n => UInt8.ofNat n.toNat).toArray.get!Internal j = _
      have hl2 : i + j < xs.length := by omega
      rw [Array.get!Internal_eq_getElem!]
      simp [hl2]
    rw [e]
    simp only [UInt8.toNat_ofNat']
    have : (xs.getD (i + j) 0).toNat % 2 ^ 8 = (xs.getD (i + j) 0).toNat := Nat.mod_eq_of_lt (by omega)
    omega
  have hT := Tryd.utf8_DecodeRune s pb (po + i) c w henv.2 (fun j hj => by
    rw [Nat.add_assoc, hc (i + j) (by omega), hget j (by omega)])
  rw [hsz] at hT
  have hne : ¬ s.size = 0 := by omega
  have h0 := hget 0 (by omega)
  have hd : Lib.decodeGo s = Lib.decodeN s.size (s.get! 0).toNat (s.get! 1).toNat (s.get! 2).toNat (s.get! 3).toNat := by
    rw [Lib.decodeGo, if_neg hne, Lib.decode_at]; rfl
  obtain ⟨R, K, e, k1, k2, k3, k4, k5, k6, k7, k8, k9⟩ := dec_facts s.size (s.get! 0).toNat (s.get! 1).toNat (s.get! 2).toNat (s.get! 3).toNat (by omega) (by rw [Nat.add_zero] at h0; omega) (by have := UInt8.toNat_lt (s.get! 0); omega)
  rw [hd, e] at hT
  refine hT.mono ?_
  rintro e' w' ⟨rfl, hb⟩
  refine ⟨Fr.of_below hb, R, K, rfl, k1, by omega, ?_, k3, k4, k9⟩
  intro j h1 h2
  obtain rfl | rfl | rfl | rfl : j = i ∨ j = i + 1 ∨ j = i + 2 ∨ j = i + 3 := by omega
  · exact h128
  · have := hget 1 (by omega); have := k5 (by omega); omega
  · have := hget 2 (by omega); have := k6 (by omega); omega
  · have := hget 3 (by omega); have := k7 (by omega); omega

theorem call31 (b : ByteArray) (m : Int) (w : World) (hm : w.cell? ⟨0, 0, none⟩ = some (.int .i64 m)) (hb : 3 ≤ b.size) (hbm : (b.size : Int) ≤ m) :
    (callFunc 31 #[.string ⟨#[13, 10]⟩, .string b]).run Tryd.prog w = .ok (.value (.int .i64 (-1))) w := by
  rw [run_callFunc_extern Tryd.func31 (by kernel_rfl) (by kernel_rfl) (by kernel_rfl) (e := Extern.BytealgIndex.index) (by kernel_rfl), Lib.run_indexString _ _ w 0 m (by kernel_rfl) hm (by omega) hbm (by decide), idx_long b hb]
  rfl

theorem brk_wide {xs : List Int} {i K n : Nat} (hx : xs.length = n) (hi : i ≤ M.brk xs) (hK : i + K ≤ n) (h : ∀ j, i ≤ j → j < i + K → 128 ≤ xs.getD j 0) : i + K ≤ M.brk xs := by
  induction K with
  | zero => exact hi
  | succ K ih =>
    have h1 := ih (by omega) (fun j h1 h2 => h j h1 (by omega))
    have h2 := h (i + K) (by omega) (by omega)
    have : M.eol (xs.getD (i + K) 0) = false := by
      simp only [M.eol, Bool.or_eq_false_iff, beq_eq_false_iff_ne]; omega
    have hlt : i + K < xs.length := by omega
    exact M.brk_step h1 hlt this

set_option maxHeartbeats 4000000 in
set_option maxRecDepth 1000000 in
theorem any_short (pb po n c : Nat) (xs : List Int) (w : World) (m : Int) (henv : Env w m) (hx : xs.length = n) (hB : IsB xs) (hc : ∀ i, i < n → w.cell? ⟨pb, po + i, none⟩ = some (.int .u8 (xs.getD i 0))) (h2 : 2 ≤ n) (h8 : n ≤ 8) (hnc : n ≤ c) :
    Calls Tryd.prog 20 #[.slice (some ⟨pb, po, none⟩) n c, .string ⟨#[13, 10]⟩] w fun e w' => e = .returned (.int .i64 (M.brkI xs)) ∧ Fr (fun _ => False) w w' := by
  have HX : Hid (xs.length = n) := hx
  have HB : Hid (IsB xs) := hB
  have HE : Hid (Env w m) := henv
  have HC : Hid (∀ i, i < n → w.cell? ⟨pb, po + i, none⟩ = some (.int .u8 (xs.getD i 0))) := hc
  clear hx hB henv hc
  have hn1 : ((n : Int) == 1) = false := by simp; omega
  go_enter Tryd.func20, Tryd.ntmps20
  go_wp2_with (go_at_call 27; go_in)
  go_loopg [12, 11, 13] n (fun g s12 _ _ wx => ∃ i : Nat, i ≤ n ∧ n - i ≤ g ∧ s12 = .int .i64 i ∧ Fr (fun _ => False) w wx ∧ i ≤ M.brk xs)
  case atStart => exact ⟨0, by omega, by omega, rfl, Fr.refl _ _, Nat.zero_le _⟩
  case round =>
    obtain ⟨i, hin, hig, rfl, hfr, hib⟩ := hrel
    have HI : Hid (i ≤ M.brk xs) := hib
    have HF : Hid (Fr (fun _ => False) w wr) := hfr
    clear hib
    by_cases hi : i < n
    · have hiz : (i : Int) < (n : Int) := by omega
      have hxi : 0 ≤ xs.getD i 0 ∧ xs.getD i 0 < 256 := HB.out _ (by
        have h : i < xs.length := by rw [HX.out]; exact hi
        simp [List.getD, h])
      have hcr : ∀ j, j < n → wr.cell? ⟨pb, po + j, none⟩ = some (.int .u8 (xs.getD j 0)) := fun j hj => by
        rw [hfr.cell (p := ⟨pb, po + j, none⟩) (World.block_lt_of_cell? w _ (HC.out j hj)) (fun e => e)]; exact HC.out j hj
      have hci := hcr i hi
      have henv := HE.out.kept hfr (fun _ e => e.elim)
      have hcap : ¬ c = i := by omega
      clear hfr
      by_cases h128 : xs.getD i 0 < 128
      · have h25 := call25 _ hxi
        generalize hX : xs.getD i 0 = X at hci hxi h128 h25
        have HX2 : Hid (xs.getD i 0 = X) := hX
        clear hX hcr henv
        by_cases h13 : X = 13
        · subst h13
          go_wp2
          go_ret
          exact ⟨by rw [M.brkI_hit HI.out (by rw [HX.out]; exact hi) (by rw [HX2.out]; rfl)]; rfl, HF.out⟩
        · by_cases h10 : X = 10
          · subst h10
            go_wp2
            go_ret
            exact ⟨by rw [M.brkI_hit HI.out (by rw [HX.out]; exact hi) (by rw [HX2.out]; rfl)]; rfl, HF.out⟩
          · rw [if_neg h13, if_neg h10] at h25
            cases gk with
            | zero => omega
            | succ g =>
              go_wp2
              go_roundg g
              case measure => omega
              case rel => exact ⟨i + 1, by omega, by omega, by first | rfl | simp, HF.out, M.brk_step HI.out (by rw [HX.out]; exact hi) (by rw [HX2.out]; simp [M.eol, h13, h10])⟩
      · have hdec := fun cc => dec_any wr m pb po n cc i xs henv HX.out HB.out hcr hi (by omega)
        generalize hX : xs.getD i 0 = X at hci hxi h128
        have HX2 : Hid (xs.getD i 0 = X) := hX
        clear hX hcr
        cases gk with
        | zero => omega
        | succ g =>
        go_wp2_with fail
        refine (hdec _).mono ?_
        rintro e w1 ⟨hf1, R, K, rfl, hK1, hKn, hall, hR1, hR2, hrw⟩
        have henv1 := henv.kept hf1 (fun _ e => e.elim)
        have HF1 : Hid (Fr (fun _ => False) w w1) := HF.out.trans hf1 (fun _ e => e.elim)
        have HBK : Hid (i + K ≤ M.brk xs) := brk_wide HX.out HI.out hKn hall
        have hmx := henv1.1
        have n0 := fun ty => run_next_ascii (P := Tryd.prog) w1 ⟨#[13, 10]⟩ 0 ty (by decide) (by decide)
        have n1 := fun ty => run_next_ascii (P := Tryd.prog) w1 ⟨#[13, 10]⟩ 1 ty (by decide) (by decide)
        have n2 := run_next_end (P := Tryd.prog) w1 ⟨#[13, 10]⟩ 2
        have e13 : ((⟨#[13, 10]⟩ : ByteArray)[0]'(by decide)).toNat = 13 := rfl
        have e10 : ((⟨#[13, 10]⟩ : ByteArray)[1]'(by decide)).toNat = 10 := rfl
        have hR13 : ((R : Int) == 13) = false := by simp; omega
        have hR10 : ((R : Int) == 10) = false := by simp; omega
        have hKz : (K : Int) ≤ 1000 := by omega
        clear hdec hf1 hall henv henv1 hci hxi h128
        by_cases hr : R = 65533
        · clear hrw
          subst hr
          go_wp2
          refine wp_loop_rounds 3 ?_
          rw [rounds_succ]
          go_wp2
          rw [rounds_succ]
          go_wp2
          rw [rounds_succ]
          go_wp2
          go_roundg g
          case measure => omega
          case rel => exact ⟨i + K, by omega, by omega, by first | rfl | simp, HF1.out.trans (Fr.alloc (F := fun _ => False) _ _) (fun _ e => .inl e), HBK.out⟩
        · have hne : ((R : Int) != 65533) = true := by simp; omega
          rcases hrw with hr' | ⟨rfl, hr⟩ | ⟨rfl, hr⟩ | ⟨rfl, hr⟩
          · exact absurd hr' hr
          · have hen : ([13, 10] == (Utf8.encode (R : Int)).toList) = false := enc2 R hR1 hr
            go_wp2
            go_roundg g
            case measure => omega
            case rel => exact ⟨i + 2, by omega, by omega, by first | rfl | simp, HF1.out, HBK.out⟩
          · have hsz := enc3_size R hr.1 hr.2.1 hr.2.2
            by_cases hmk : (3 : Int) ≤ m
            · have h31 := call31 (Utf8.encode (R : Int)) m w1 hmx (by omega) (by omega)
              clear hsz hr hR1 hR2
              go_wp2
              go_roundg g
              case measure => omega
              case rel => exact ⟨i + 3, by omega, by omega, by first | rfl | simp, HF1.out, HBK.out⟩
            · clear hsz hr hR1 hR2
              go_wp2
              refine wp_loop_rounds 3 ?_
              rw [rounds_succ]
              go_wp2
              rw [rounds_succ]
              go_wp2
              rw [rounds_succ]
              go_wp2
              go_roundg g
              case measure => omega
              case rel => exact ⟨i + 3, by omega, by omega, by first | rfl | simp, HF1.out.trans (Fr.alloc (F := fun _ => False) _ _) (fun _ e => .inl e), HBK.out⟩
          · have hsz := enc4_size R hr hR2
            by_cases hmk : (4 : Int) ≤ m
            · have h31 := call31 (Utf8.encode (R : Int)) m w1 hmx (by omega) (by omega)
              clear hsz hr hR1 hR2
              go_wp2
              go_roundg g
              case measure => omega
              case rel => exact ⟨i + 4, by omega, by omega, by first | rfl | simp, HF1.out, HBK.out⟩
            · clear hsz hr hR1 hR2
              go_wp2
              refine wp_loop_rounds 3 ?_
              rw [rounds_succ]
              go_wp2
              rw [rounds_succ]
              go_wp2
              rw [rounds_succ]
              go_wp2
              go_roundg g
              case measure => omega
              case rel => exact ⟨i + 4, by omega, by omega, by first | rfl | simp, HF1.out.trans (Fr.alloc (F := fun _ => False) _ _) (fun _ e => .inl e), HBK.out⟩
    · have hiz : ¬ (i : Int) < (n : Int) := by omega
      obtain rfl : i = n := by omega
      go_wp2
      go_ret
      exact ⟨by rw [M.brkI_end (by rw [HX.out]; exact HI.out)]; rfl, HF.out⟩

theorem any_crlf (pb po n c : Nat) (xs : List Int) (w : World) (m : Int) (henv : Env w m) (hx : xs.length = n) (hB : IsB xs) (hc : ∀ i, i < n → w.cell? ⟨pb, po + i, none⟩ = some (.int .u8 (xs.getD i 0))) (h1 : 1 ≤ n) (hn : n ≤ 1048576) (hnc : n ≤ c) :
    Calls Tryd.prog 20 #[.slice (some ⟨pb, po, none⟩) n c, .string ⟨#[13, 10]⟩] w fun e w' => e = .returned (.int .i64 (M.brkI xs)) ∧ Fr (fun _ => False) w w' := by
  rcases Nat.lt_or_ge 8 n with h8 | h8
  · exact any_long pb po n c xs w hx hB hc h8 hn
  · rcases Nat.lt_or_ge 1 n with h2 | h2
    · exact any_short pb po n c xs w m henv hx hB hc h2 h8 hnc
    · obtain rfl : n = 1 := by omega
      match xs, hx with
      | [x], _ => exact any_one pb po c x w (hB x (by simp)) (by simpa using hc 0 (by omega))
end Go.Proofs.Qxb6602599aDoor
