import Derived.Test.Qxb6602721aDoorPlain
import Derived.Test.Qxb6602721aDoorShelf
namespace Go.Proofs.Qxb6602721aDoor
open Go.RowKit
open Go

def bs (l : List UInt8) : ByteArray := ⟨l.toArray⟩
theorem bs_list (l : List UInt8) : (bs l).data.toList = l := rfl
theorem bs_of (s : ByteArray) : bs s.data.toList = s := by cases s; rfl
theorem bs_toList (l : List UInt8) : (bs l).toList = l := by rw [Lib.toList_data]; rfl
theorem bs_size (l : List UInt8) : (bs l).size = l.length := by simp [bs, ByteArray.size]
theorem bs_app (a b : List UInt8) : bs a ++ bs b = bs (a ++ b) := by
  have : (bs a ++ bs b).data = (bs (a ++ b)).data := by
    rw [ByteArray.data_append]; simp [bs]
  cases h1 : bs a ++ bs b
  cases h2 : bs (a ++ b)
  rw [h1, h2] at this
  simpa using this

def digs : List UInt8 := [48, 49, 50, 51, 52, 53, 54, 55, 56, 57]
theorem digs_nat : ∀ n, n < 256 → digs.contains (UInt8.ofNat n) = isD (UInt8.ofNat n) := by decide +kernel
theorem digs_isD (b : UInt8) : digs.contains b = isD b := by
  have := digs_nat b.toNat b.toNat_lt
  rwa [UInt8.ofNat_toNat] at this
theorem dropW_nil (p : UInt8 → Bool) : ∀ l : List UInt8, l.dropWhile p = [] ↔ ∀ x ∈ l, p x = true
  | [] => by simp
  | c :: r => by
    rw [List.dropWhile_cons]
    split
    · rename_i h
      rw [dropW_nil p r]
      simp [h]
    · rename_i h
      simp [h]

theorem trimS_digs (l : List UInt8) : Lib.trimS l digs = [] ↔ l.all isD = true := by
  unfold Lib.trimS Lib.trimLeftS Lib.trimRightS
  constructor
  · intro h
    have h1 := (dropW_nil _ _).1 h
    cases hr : l.reverse.dropWhile (fun x => digs.contains x) with
    | nil =>
      have h2 := (dropW_nil _ _).1 hr
      rw [List.all_eq_true]
      intro x hx
      rw [← digs_isD]
      exact h2 x (List.mem_reverse.2 hx)
    | cons c r =>
      exfalso
      have hc : digs.contains c = false := by
        have := List.head?_dropWhile_not (fun x => digs.contains x) l.reverse
        rw [hr] at this
        simpa using this
      have := h1 c (by rw [hr]; simp)
      rw [hc] at this
      cases this
  · intro h
    have h2 : l.reverse.dropWhile (fun x => digs.contains x) = [] := (dropW_nil _ _).2 fun x hx => by
      rw [digs_isD]
      exact List.all_eq_true.1 h x (List.mem_reverse.1 hx)
    rw [h2]; rfl

theorem trim_digs (s : ByteArray) (w : World) (hs : s.size ≤ 9223372036854775807) : Calls Tryd.prog 17 #[.string s, .string ⟨#[48, 49, 50, 51, 52, 53, 54, 55, 56, 57]⟩] w fun e w' => e = .returned (.string (bs (Lib.trimS s.data.toList digs))) ∧ Fr (fun _ => False) w w' :=
  (Any.strings_Trim_laid Tryd.lays160 (by kernel_rfl) s ⟨#[48, 49, 50, 51, 52, 53, 54, 55, 56, 57]⟩ w hs (by decide) (fun j b h => by
    have hm : b ∈ digs := List.mem_of_getElem? h
    simp [digs] at hm
    rcases hm with e | e | e | e | e | e | e | e | e | e <;> rw [e] <;> decide)).mono fun e w' ⟨h1, h2⟩ => ⟨h1, Fr.of_below h2⟩

def signOf (b : Bool) : List UInt8 := if b = true then [45] else []
def badB (WH PL : List UInt8) : Bool := decide (WH = [] ∨ Lib.trimS (WH ++ PL) digs ≠ [] ∨ 15 < (Lib.trimB (WH ++ PL) 48).length)
def leadB (WH : List UInt8) : Bool := decide (1 < WH.length ∧ WH.getD 0 0 = 48)
def fmt1 (WH : List UInt8) : List UInt8 := if leadB WH = true then List.replicate WH.length 48 else [48]
def fmtD (WH PL : List UInt8) (PT : Bool) : List UInt8 := if PT = true then fmt1 WH ++ (46 :: List.replicate PL.length 48) else fmt1 WH
def atD (WH : List UInt8) (k : Int) : Nat := if (WH.length : Int) - k < 1 then 1 else ((WH.length : Int) - k).toNat
def padD (WH PL : List UInt8) (k : Int) : List UInt8 := if (WH.length : Int) - k < 1 then List.replicate (1 - ((WH.length : Int) - k)).toNat 48 ++ (WH ++ PL) else WH ++ PL
def val1 (ng : Bool) (A : List UInt8) (a : Nat) : List UInt8 := signOf ng ++ Lib.trimLeftB (A.take (a - 1)) 48 ++ (A.drop (a - 1)).take 1
def valD (ng : Bool) (A : List UInt8) (a : Nat) : List UInt8 := if a < A.length then val1 ng A a ++ (46 :: A.drop a) else val1 ng A a

theorem repeatL_zero : ∀ c, Lib.repeatL [48] c = List.replicate c 48
  | 0 => rfl
  | c + 1 => by rw [Lib.repeatL, repeatL_zero c]; rfl

theorem repeat_any (c : Nat) (w : World) (hc : c ≤ 4194304) : Calls Tryd.prog 18 #[.string ⟨#[48]⟩, .int .i64 c] w fun e w' => e = .returned (.string (bs (List.replicate c 48))) ∧ Fr (fun _ => False) w w' :=
  (Tryd.strings_Repeat ⟨#[48]⟩ c w (by omega) (by show 1 * c ≤ _; omega)).mono fun e w' ⟨h1, h2⟩ => ⟨by rw [h1]; show _ = Ending.returned (.string (bs (List.replicate c 48))); rw [← repeatL_zero]; rfl, Fr.of_below h2⟩

theorem ext_take (l : List UInt8) (a b : Nat) : (bs l).extract a b = bs ((l.take b).drop a) := by
  have : ((bs l).extract a b).data = (bs ((l.take b).drop a)).data := by
    rw [ByteArray.data_extract]
    show l.toArray.extract a b = ((l.take b).drop a).toArray
    rw [List.extract_toArray, List.drop_take]
  cases h1 : (bs l).extract a b
  cases h2 : bs ((l.take b).drop a)
  rw [h1, h2] at this
  simpa using this

def DecP (w : World) (bad : Bool) (V F : List UInt8) (e : Ending) (w' : World) : Prop :=
  e = .returned (if bad = true then .tuple #[.string ⟨#[]⟩, .string ⟨#[]⟩, .bool false] else .tuple #[.string (bs V), .string (bs F), .bool true]) ∧ Fr (fun _ => False) w w'

theorem DecP.no {w w' : World} {bad : Bool} {V F : List UInt8} (h : true = bad) (hf : Fr (fun _ => False) w w') : DecP w bad V F (.returned (.tuple #[.string ⟨#[]⟩, .string ⟨#[]⟩, .bool false])) w' := by
  subst h
  exact ⟨rfl, hf⟩
theorem DecP.yes {w w' : World} {bad : Bool} {V F : List UInt8} {v f : ByteArray} (h : false = bad) (hv : v = bs V) (hF : f = bs F) (hf : Fr (fun _ => False) w w') : DecP w bad V F (.returned (.tuple #[.string v, .string f, .bool true])) w' := by
  subst h hv hF
  exact ⟨rfl, hf⟩

set_option maxHeartbeats 6400000 in
set_option maxRecDepth 1000000 in
theorem decimal_any (s : ByteArray) (k m : Int) (w : World) (hs : s.size ≤ 1048576) (hm : w.cell? ⟨0, 0, none⟩ = some (.int .i64 m)) (hk1 : -65536 ≤ k) (hk2 : k ≤ 65536)
    (NG : Bool) (WH PL : List UInt8) (PT : Bool) (hNG : NG = neg s.data.toList) (hcut : Lib.cut (s.data.toList.drop (st s.data.toList)) [46] = (WH, PL, PT)) (hlen : WH.length + PL.length ≤ s.size) (hsh : badB WH PL = false → -(PL.length : Int) ≤ k) :
    Calls Tryd.prog 12 #[.string s, .int .i64 k] w fun e w' => DecP w (badB WH PL) (valD NG (padD WH PL k) (atD WH k)) (fmtD WH PL PT) e w' := by
  have hcp := Tryd.strings_CutPrefix s ⟨#[45]⟩ w
  rw [show (⟨#[45]⟩ : ByteArray).data.toList = [45] from rfl, (st_eq s.data.toList).1, (st_eq s.data.toList).2, ← hNG] at hcp
  obtain ⟨Lb, hLb⟩ : ∃ Lb, Lb = bs (s.data.toList.drop (st s.data.toList)) := ⟨_, rfl⟩
  have hcp2 : Calls Tryd.prog 15 #[.string s, .string ⟨#[45]⟩] w fun e w' => e = .returned (.tuple #[.string Lb, .bool NG]) ∧ w' = w := by rw [hLb]; exact hcp
  obtain ⟨SG, hSG⟩ : ∃ SG, SG = bs (signOf NG) := ⟨_, rfl⟩
  obtain ⟨Wb, hWb⟩ : ∃ Wb, Wb = bs WH := ⟨_, rfl⟩
  obtain ⟨Pb, hPb⟩ : ∃ Pb, Pb = bs PL := ⟨_, rfl⟩
  have hLsz : Lb.size ≤ s.size := by rw [hLb, bs_size, List.length_drop, size_list s]; omega
  have hct : Calls Tryd.prog 16 #[.string Lb, .string ⟨#[46]⟩] w fun e w' => e = .returned (.tuple #[.string Wb, .string Pb, .bool PT]) ∧ Fr (fun _ => False) w w' := by
    have := Tryd.strings_Cut Lb ⟨#[46]⟩ m w (by omega) hm
    rw [show (⟨#[46]⟩ : ByteArray).data.toList = [46] from rfl, hLb, bs_list, hcut] at this
    rw [hLb, hWb, hPb]
    exact this.mono fun e w' ⟨h1, n, h2⟩ => ⟨h1, by rw [h2]; exact Fr.drewN w n⟩
  have hLs : NG = false → Lb = s := fun e => by
    rw [hLb, st, ← hNG, e]
    exact bs_of s
  have hWs : Wb.size = WH.length := by rw [hWb, bs_size]
  have hPs : Pb.size = PL.length := by rw [hPb, bs_size]
  have HX : Hid _ := And.intro hNG (And.intro hSG (And.intro hWb (And.intro hPb (And.intro hLs hsh))))
  clear hcp hNG hLb hSG hWb hPb hLs hsh hcut hm hLsz
  go_enter Tryd.func12, Tryd.ntmps12
  go_wp2_with fail
  refine hcp2.mono ?_
  rintro e w1 ⟨rfl, rfl⟩
  go_upto_if 22 with fail
  go_cut [7, 8] from 16 to 23 (fun s7 s8 wx => s7 = .string SG ∧ s8 = .string Lb ∧ w1 = wx)
  case first =>
    cases NG
    · obtain rfl : SG = ⟨#[]⟩ := HX.out.2.1
      obtain rfl : Lb = s := HX.out.2.2.2.2.1 rfl
      go_wp2
      go_meet
      case rel => exact ⟨rfl, rfl, rfl⟩
    · obtain rfl : SG = ⟨#[45]⟩ := HX.out.2.1
      go_wp2
      go_meet
      case rel => exact ⟨rfl, rfl, rfl⟩
  case rest =>
    obtain ⟨rfl, rfl, hwc⟩ := hcut
    subst hwc
    clear hcp2
    go_wp2_with fail
    refine hct.mono ?_
    rintro e w2 ⟨rfl, hf2⟩
    have HF2 : Hid _ := hf2
    clear hf2 hct
    go_upto_region 7 with fail
    obtain ⟨Ab, hAb⟩ : ∃ Ab, Ab = Wb ++ Pb := ⟨_, rfl⟩
    rw [← hAb]
    have HA : Hid (Ab = bs (WH ++ PL)) := by
      show Ab = _
      rw [hAb, HX.out.2.2.1, HX.out.2.2.2.1, bs_app]
    have hAs : Ab.size = WH.length + PL.length := by rw [HA.out, bs_size, List.length_append]
    clear hAb
    obtain ⟨bad, hbad⟩ : ∃ bad, bad = badB WH PL := ⟨_, rfl⟩
    have HBad : Hid (bad = badB WH PL) := hbad
    clear hbad
    go_cut [45] from 33 to 45 (fun s45 wx => s45 = .bool bad ∧ Fr (fun _ => False) w1 wx)
    case first =>
      by_cases hW0 : WH = []
      · obtain rfl : bad = true := by rw [HBad.out]; simp [badB, hW0]
        obtain rfl : Wb = ⟨#[]⟩ := by rw [HX.out.2.2.1, hW0]; rfl
        clear hW0 HBad
        go_wp2
        go_meet
        case rel => exact ⟨rfl, HF2.out⟩
      · have hWe : (Wb.toList == []) = false := by
          rw [HX.out.2.2.1, bs_toList]
          simpa using hW0
        have htd := trim_digs Ab w2 (by omega)
        obtain ⟨X, hX⟩ : ∃ X, X = bs (Lib.trimS Ab.data.toList digs) := ⟨_, rfl⟩
        rw [← hX] at htd
        rw [HA.out, bs_list] at hX
        by_cases hT : Lib.trimS (WH ++ PL) digs = []
        · obtain rfl : X = ⟨#[]⟩ := by rw [hX, hT]; rfl
          clear hX
          go_wp2_with fail
          refine htd.mono ?_
          rintro e w3 ⟨rfl, hf3⟩
          have HF3 : Hid (Fr (fun _ => False) w1 w3) := HF2.out.trans hf3 (fun _ e => .inl e)
          have ht1 := Tryd.strings_Trim_one Ab 48 (by decide) w3 (by omega)
          obtain ⟨Y, hY⟩ : ∃ Y : ByteArray, Y = ⟨(Lib.trimB Ab.data.toList 48).toArray⟩ := ⟨_, rfl⟩
          rw [← hY] at ht1
          have hYs : Y.size = (Lib.trimB (WH ++ PL) 48).length := by
            rw [hY, HA.out, bs_list]; exact bs_size _
          obtain ⟨T, hTn⟩ : ∃ T, T = (Lib.trimB (WH ++ PL) 48).length := ⟨_, rfl⟩
          rw [← hTn] at hYs
          have HB2 : Hid (bad = decide (15 < T)) := by
            show bad = _
            rw [HBad.out, hTn]; simp [badB, hW0, hT]
          clear hY hTn hT hW0 HBad hf3 htd
          by_cases h15 : 15 < T
          · have h15z : (T : Int) > 15 := by omega
            obtain rfl : bad = true := by rw [HB2.out]; simp [h15]
            clear HB2
            go_wp2_with fail
            refine ht1.mono ?_
            rintro e w4 ⟨rfl, hw4⟩
            have HF4 : Hid (Fr (fun _ => False) w1 w4) := by
              rcases hw4 with e | e
              · rw [e]; exact HF3.out
              · rw [e]; exact HF3.out.trans (Fr.drew _) (fun _ e => .inl e)
            clear hw4 ht1
            go_wp2
            go_meet
            case rel => exact ⟨rfl, HF4.out⟩
          · have h15z : ¬ (T : Int) > 15 := by omega
            obtain rfl : bad = false := by rw [HB2.out]; simp [h15]
            clear HB2
            go_wp2_with fail
            refine ht1.mono ?_
            rintro e w4 ⟨rfl, hw4⟩
            have HF4 : Hid (Fr (fun _ => False) w1 w4) := by
              rcases hw4 with e | e
              · rw [e]; exact HF3.out
              · rw [e]; exact HF3.out.trans (Fr.drew _) (fun _ e => .inl e)
            clear hw4 ht1
            go_wp2
            go_meet
            case rel => exact ⟨by first | rfl | rw [show decide (15 < (T : Int)) = false from by simp; omega], HF4.out⟩
        · have hXe : (X.toList == []) = false := by
            rw [hX, bs_toList]
            simpa using hT
          obtain rfl : bad = true := by rw [HBad.out]; simp [badB, hT]
          clear hX hT hW0 HBad
          go_wp2_with fail
          refine htd.mono ?_
          rintro e w3 ⟨rfl, hf3⟩
          have HF3 : Hid (Fr (fun _ => False) w1 w3) := HF2.out.trans hf3 (fun _ e => .inl e)
          clear hf3 htd
          go_wp2
          go_meet
          case rel => exact ⟨rfl, HF3.out⟩
    case rest =>
      obtain ⟨rfl, hf3⟩ := hcut
      have HF3 : Hid (Fr (fun _ => False) w1 wc) := hf3
      clear hf3 HF2
      cases bad
      · have hk3 : -(PL.length : Int) ≤ k := HX.out.2.2.2.2.2 HBad.out.symm
        obtain ⟨z0, hz0⟩ : ∃ z0, z0 = leadB WH := ⟨_, rfl⟩
        have HZ0 : Hid (z0 = leadB WH) := hz0
        clear hz0
        go_upto_region 10 with fail
        go_cut [53] from 46 to 53 (fun s53 wx => s53 = .bool z0 ∧ wc = wx)
        case first =>
          by_cases h1 : 1 < WH.length
          · have h1z : (WH.length : Int) > 1 := by omega
            have e1 := idx_str Wb 0 (by omega) wc
            rw [show ((0 : Nat) : Int) = 0 from rfl, at_] at e1
            obtain ⟨b, hb⟩ : ∃ b, b = Wb.data.toList.getD 0 0 := ⟨_, rfl⟩
            rw [← hb] at e1
            rw [HX.out.2.2.1, bs_list] at hb
            by_cases h48 : b = 48
            · obtain rfl : z0 = true := by
                rw [HZ0.out]
                exact decide_eq_true ⟨h1, by rw [← hb]; exact h48⟩
              subst h48
              rw [show ((48 : UInt8).toNat : Int) = 48 from rfl] at e1
              clear hb HZ0
              go_wp2
              go_meet
              case rel => exact ⟨rfl, rfl⟩
            · obtain rfl : z0 = false := by
                rw [HZ0.out]
                exact decide_eq_false fun e => h48 (by rw [hb]; exact e.2)
              have hne : b.toNat ≠ 48 := fun e => h48 (UInt8.toNat_inj.1 e)
              have hz : ((b.toNat : Int) == 48) = false := by simp; omega
              clear hb HZ0 h48 hne
              go_wp2
              go_meet
              case rel => exact ⟨rfl, rfl⟩
          · have h1z : ¬ (WH.length : Int) > 1 := by omega
            obtain rfl : z0 = false := by
              rw [HZ0.out]
              exact decide_eq_false fun e => h1 e.1
            clear HZ0
            go_wp2
            go_meet
            case rel => exact ⟨rfl, rfl⟩
        case rest =>
          obtain ⟨rfl, hwc⟩ := hcut
          subst hwc
          obtain ⟨F1, hF1⟩ : ∃ F1, F1 = bs (fmt1 WH) := ⟨_, rfl⟩
          have hF1s : F1.size ≤ s.size + 1 := by
            rw [hF1, bs_size, fmt1]
            split
            · rw [List.length_replicate]; omega
            · simp
          have HF1 : Hid (F1 = bs (fmt1 WH)) := hF1
          clear hF1
          go_upto_if 53 with fail
          go_cut [5] from 46 to 56 (fun s5 wx => s5 = .string F1 ∧ Fr (fun _ => False) w1 wx)
          case first =>
            cases z0
            · obtain rfl : F1 = ⟨#[48]⟩ := by rw [HF1.out, fmt1, ← HZ0.out]; rfl
              go_wp2
              go_meet
              case rel => exact ⟨rfl, HF3.out⟩
            · have hr := repeat_any WH.length wc (by omega)
              obtain ⟨R, hR⟩ : ∃ R, R = bs (List.replicate WH.length 48) := ⟨_, rfl⟩
              rw [← hR] at hr
              obtain rfl : F1 = R := by rw [HF1.out, fmt1, ← HZ0.out, hR]; rfl
              clear hR
              go_wp2_with fail
              refine hr.mono ?_
              rintro e w4 ⟨rfl, hf4⟩
              have HF4 : Hid (Fr (fun _ => False) w1 w4) := HF3.out.trans hf4 (fun _ e => .inl e)
              clear hf4 hr
              go_wp2
              go_meet
              case rel => exact ⟨rfl, HF4.out⟩
          case rest =>
            obtain ⟨rfl, hf4⟩ := hcut
            have HF4 : Hid _ := hf4
            clear hf4 HF3 HZ0
            obtain ⟨F2, hF2⟩ : ∃ F2, F2 = bs (fmtD WH PL PT) := ⟨_, rfl⟩
            have HF2b : Hid (F2 = bs (fmtD WH PL PT)) := hF2
            clear hF2
            go_upto_if 57 with fail
            go_cut [5] from 46 to 63 (fun s5 wx => s5 = .string F2 ∧ Fr (fun _ => False) w1 wx)
            case first =>
              cases PT
              · obtain rfl : F2 = F1 := by rw [HF2b.out, HF1.out]; rfl
                go_wp2
                go_meet
                case rel => exact ⟨rfl, HF4.out⟩
              · have hr := fun wx => repeat_any PL.length wx (by omega)
                obtain ⟨R, hR⟩ : ∃ R, R = bs (List.replicate PL.length 48) := ⟨_, rfl⟩
                rw [← hR] at hr
                have hRs : R.size = PL.length := by rw [hR, bs_size, List.length_replicate]
                have HR : Hid _ := hR
                clear hR
                go_wp2_with fail
                refine (hr _).mono ?_
                rintro e w5 ⟨rfl, hf5⟩
                have HF5 : Hid (Fr (fun _ => False) w1 w5) := HF4.out.trans hf5 (fun _ e => .inl e)
                have hds : (⟨#[46]⟩ : ByteArray).size = 1 := rfl
                clear hf5 hr
                go_wp2
                go_meet
                case rel =>
                  refine ⟨?_, HF5.out⟩
                  rw [HF2b.out, HF1.out, HR.out, show (⟨#[46]⟩ : ByteArray) = bs [46] from rfl, bs_app, bs_app]
                  rfl
            case rest =>
              obtain ⟨rfl, hf5⟩ := hcut
              have HF5 : Hid _ := hf5
              clear hf5 HF4
              obtain ⟨A2, hA2⟩ : ∃ A2, A2 = bs (padD WH PL k) := ⟨_, rfl⟩
              obtain ⟨a1, ha1⟩ : ∃ a1, a1 = atD WH k := ⟨_, rfl⟩
              have hA2s : A2.size = (padD WH PL k).length := by rw [hA2, bs_size]
              have hbd : 1 ≤ a1 ∧ a1 ≤ A2.size ∧ A2.size ≤ 2000000 := by
                rw [hA2s, ha1, padD, atD]
                split
                · rw [List.length_append, List.length_replicate, List.length_append]; omega
                · rw [List.length_append]; omega
              have HA2 : Hid (A2 = bs (padD WH PL k) ∧ a1 = atD WH k) := ⟨hA2, ha1⟩
              clear hA2 ha1 hA2s
              go_upto_if 69 with fail
              go_cut [14, 15] from 64 to 74 (fun s14 s15 wx => s14 = .string A2 ∧ s15 = .int .i64 a1 ∧ Fr (fun _ => False) w1 wx)
              case first =>
                by_cases hat : (WH.length : Int) - k < 1
                · obtain ⟨c, hc⟩ : ∃ c : Nat, (c : Int) = 1 - ((WH.length : Int) - k) := ⟨(1 - ((WH.length : Int) - k)).toNat, by omega⟩
                  have hr := fun wx => repeat_any c wx (by omega)
                  obtain ⟨R, hR⟩ : ∃ R, R = bs (List.replicate c 48) := ⟨_, rfl⟩
                  rw [← hR] at hr
                  have hRs : R.size = c := by rw [hR, bs_size, List.length_replicate]
                  have HR : Hid (R ++ Ab = A2) := by
                    show R ++ Ab = A2
                    rw [HA2.out.1, padD, if_pos hat, hR, HA.out, bs_app, ← hc]
                    rfl
                  obtain rfl : a1 = 1 := by rw [HA2.out.2, atD, if_pos hat]
                  have hcz : 1 - ((WH.length : Int) - k) = (c : Int) := hc.symm
                  clear hR hc
                  go_wp2_with fail
                  refine (hr _).mono ?_
                  rintro e w6 ⟨rfl, hf6⟩
                  have HF6 : Hid (Fr (fun _ => False) w1 w6) := HF5.out.trans hf6 (fun _ e => .inl e)
                  clear hf6 hr
                  go_wp2
                  go_meet
                  case rel => exact ⟨by rw [HR.out], rfl, HF6.out⟩
                · obtain rfl : A2 = Ab := by rw [HA2.out.1, padD, if_neg hat, HA.out]
                  have haz : (WH.length : Int) - k = (a1 : Int) := by rw [HA2.out.2, atD, if_neg hat]; omega
                  go_wp2
                  go_meet
                  case rel => exact ⟨rfl, by first | rfl | rw [haz], HF5.out⟩
              case rest =>
                obtain ⟨rfl, rfl, hf6⟩ := hcut
                have HF6 : Hid _ := hf6
                clear hf6 HF5
                obtain ⟨PA, hPA⟩ : ∃ PA, PA = padD WH PL k := ⟨_, rfl⟩
                have hAeq : A2 = bs PA := by rw [HA2.out.1, hPA]
                have hPl : PA.length = A2.size := by rw [hAeq, bs_size]
                obtain ⟨X1, hX1⟩ : ∃ X1, X1 = bs (PA.take (a1 - 1)) := ⟨_, rfl⟩
                obtain ⟨X2, hX2⟩ : ∃ X2, X2 = bs ((PA.drop (a1 - 1)).take 1) := ⟨_, rfl⟩
                obtain ⟨Y1, hY1⟩ : ∃ Y1, Y1 = bs (Lib.trimLeftB (PA.take (a1 - 1)) 48) := ⟨_, rfl⟩
                have hwr : IntKind.i64.wrap ((a1 : Int) - 1) = ((a1 - 1 : Nat) : Int) := by rw [IntKind.wrap_i64]; omega
                have hsl1 : ∀ wx, (Instr.slice 9 (.string A2) none (some (.int .i64 (IntKind.i64.wrap ((a1 : Int) - 1)))) none).run Tryd.prog wx = .ok (.string X1) wx := fun wx => by
                  rw [hwr, run_slice_string_to_if (P := Tryd.prog) wx 9 A2 .i64 _ Tryd.underlying9, if_pos (by omega), hAeq, ext_take, hX1, Int.toNat_natCast]
                  rfl
                have hsl2 : ∀ wx, (Instr.slice 9 (.string A2) (some (.int .i64 (IntKind.i64.wrap ((a1 : Int) - 1)))) (some (.int .i64 (a1 : Int))) none).run Tryd.prog wx = .ok (.string X2) wx := fun wx => by
                  rw [hwr, run_slice_string_if (P := Tryd.prog) wx 9 A2 .i64 .i64 _ _ Tryd.underlying9, if_pos (by omega), if_pos (by omega), hAeq, ext_take, hX2, Int.toNat_natCast, Int.toNat_natCast, List.drop_take, show a1 - (a1 - 1) = 1 from by omega]
                have htl := Tryd.strings_TrimLeft_one X1 48 (by decide)
                rw [hX1, bs_list] at htl
                have htl2 : ∀ wx, Calls Tryd.prog 19 #[.string X1, .string ⟨#[48]⟩] wx fun e w' => e = .returned (.string Y1) ∧ w' = wx := fun wx => by rw [hX1, hY1]; exact htl wx
                have hSs : SG.size ≤ 1 := by rw [HX.out.2.1, bs_size, signOf]; split <;> simp
                have hYs : Y1.size ≤ 2000000 := by
                  have h1 : (Lib.trimLeftB (PA.take (a1 - 1)) 48).length ≤ (PA.take (a1 - 1)).length := (List.dropWhile_sublist _).length_le
                  rw [hY1, bs_size]
                  rw [List.length_take] at h1
                  omega
                have hXs : X2.size ≤ 1 := by rw [hX2, bs_size, List.length_take]; omega
                obtain ⟨V0, hV0⟩ : ∃ V0, V0 = SG ++ Y1 := ⟨_, rfl⟩
                obtain ⟨V1, hV1⟩ : ∃ V1, V1 = V0 ++ X2 := ⟨_, rfl⟩
                have hV0e : V0 = bs (signOf NG ++ Lib.trimLeftB (PA.take (a1 - 1)) 48) := by rw [hV0, HX.out.2.1, hY1, bs_app]
                have hV1e : V1 = bs (val1 NG PA a1) := by rw [hV1, hV0e, hX2, bs_app]; rfl
                have hV0s : V0.size ≤ 2000001 := by
                  rw [hV0e, bs_size, List.length_append]
                  rw [HX.out.2.1, bs_size] at hSs
                  rw [hY1, bs_size] at hYs
                  omega
                have hV1s : V1.size ≤ 2000002 := by
                  rw [hV1, hV0e, hX2, bs_app, bs_size, List.length_append]
                  rw [hV0e, bs_size] at hV0s
                  rw [hX2, bs_size] at hXs
                  omega
                have hadd1 : ∀ wx, (Op.stringOp .add SG Y1).run Tryd.prog wx = .ok (.string V0) wx := fun wx => by rw [hV0]; exact run_string_add_sum wx SG Y1 (by omega)
                have hadd2 : ∀ wx, (Op.stringOp .add V0 X2).run Tryd.prog wx = .ok (.string V1) wx := fun wx => by rw [hV1]; exact run_string_add_sum wx V0 X2 (by omega)
                obtain ⟨X3, hX3⟩ : ∃ X3, X3 = bs (PA.drop a1) := ⟨_, rfl⟩
                have hsl3 : ∀ wx, (Instr.slice 9 (.string A2) (some (.int .i64 (a1 : Int))) none none).run Tryd.prog wx = .ok (.string X3) wx := fun wx => by
                  rw [run_slice_string_from_if (P := Tryd.prog) wx 9 A2 .i64 _ Tryd.underlying9, if_pos (by omega), hX3, Int.toNat_natCast, ← hPl, hAeq, ext_take, List.take_length]
                have hX3s : X3.size ≤ 2000000 := by rw [hX3, bs_size, List.length_drop]; omega
                have HV : Hid (PA = padD WH PL k ∧ PA.length = A2.size ∧ V1 = bs (val1 NG PA a1) ∧ X3 = bs (PA.drop a1)) := ⟨hPA, hPl, hV1e, hX3⟩
                clear hPA hAeq hPl hX1 hX2 hY1 hwr htl hV0 hV1 hV0e hV1e hX3
                go_wp2
                go_quiet (first | (go_at_call 19; exact Calls.quiet_of_same (htl2 _)) | fail)
                clear hsl1 hsl2 htl2 hadd1 hadd2
                by_cases hla : a1 < A2.size
                · have hlaz : (a1 : Int) < (A2.size : Int) := by omega
                  have hds : (⟨#[46]⟩ : ByteArray).size = 1 := rfl
                  go_wp2
                  refine bodyPost_ret (v := .tuple #[.string (V1 ++ (⟨#[46]⟩ ++ X3)), .string F2, .bool true]) (by simp [results, Tryd.results12, go_sem]) rfl (DecP.yes HBad.out ?_ HF2b.out (HF6.out.trans (Fr.drewN _ _) (fun _ e => .inl e)))
                  rw [HV.out.2.2.1, HV.out.2.2.2, show (⟨#[46]⟩ : ByteArray) = bs [46] from rfl, bs_app, bs_app, ← HV.out.1, ← HA2.out.2, valD, if_pos (by rw [HV.out.2.1]; exact hla)]
                  rfl
                · have hlaz : ¬ (a1 : Int) < (A2.size : Int) := by omega
                  go_wp2
                  refine bodyPost_ret (v := .tuple #[.string V1, .string F2, .bool true]) (by simp [results, Tryd.results12, go_sem]) rfl (DecP.yes HBad.out ?_ HF2b.out (HF6.out.trans (Fr.drewN _ _) (fun _ e => .inl e)))
                  rw [HV.out.2.2.1, ← HV.out.1, ← HA2.out.2, valD, if_neg (by rw [HV.out.2.1]; exact hla)]
      · go_wp2
        exact bodyPost_ret (v := .tuple #[.string ⟨#[]⟩, .string ⟨#[]⟩, .bool false]) (by simp [results, Tryd.results12, go_sem]) rfl (DecP.no HBad.out HF3.out)
end Go.Proofs.Qxb6602721aDoor
