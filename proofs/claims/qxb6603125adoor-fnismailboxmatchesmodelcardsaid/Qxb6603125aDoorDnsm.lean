import Derived.Test.Qxb6603125aDoorPlain
namespace Go.Proofs.Qxb6603125aDoor
open Go.RowKit
open Go

theorem bool_of (p : Prop) : ∃ t : Bool, t = true ↔ p := by
  by_cases h : p
  · exact ⟨true, by simp [h]⟩
  · exact ⟨false, by simp [h]⟩

def At (L : List UInt8) (n st j : Nat) : Prop :=
  (j ≤ n ∧ st ≤ j ∧ (∀ i, st ≤ i → i < j → L.getD i 0 ≠ 46) ∧ goods (decide (1 < n)) (pcs L) = goods (decide (st = 0) && decide (1 < n)) (pcs (L.drop st))) ∨ (j = n + 1 ∧ goods (decide (1 < n)) (pcs L) = true)

theorem lab_iff {L : List UInt8} {a b : Nat} (hb : b ≤ L.length) (hab : a ≤ b) : lab ((L.drop a).take (b - a)) = true ↔ a < b ∧ b - a ≤ 63 ∧ L.getD a 0 ≠ 45 ∧ L.getD (b - 1) 0 ≠ 45 ∧ ∀ i, a ≤ i → i < b → host (L.getD i 0) = true := by
  have hl : ((L.drop a).take (b - a)).length = b - a := by simp; omega
  have hg : ∀ k, k < b - a → ((L.drop a).take (b - a))[k]? = some (L.getD (a + k) 0) := fun k hk => by
    rw [List.getElem?_take_of_lt hk, List.getElem?_drop, getD_of_lt (by omega)]
  unfold lab
  simp only [Bool.and_eq_true, bne_iff_ne, ne_eq, decide_eq_true_eq, hl]
  by_cases h1 : a < b
  · have hne : ¬ (L.drop a).take (b - a) = [] := fun e => by rw [e] at hl; simp at hl; omega
    have hh : ((L.drop a).take (b - a)).head? = some (L.getD a 0) := by rw [List.head?_eq_getElem?]; exact hg 0 (by omega)
    have ht : ((L.drop a).take (b - a)).getLast? = some (L.getD (b - 1) 0) := by
      rw [List.getLast?_eq_getElem?, hl, hg _ (by omega), show a + (b - a - 1) = b - 1 from by omega]
    have hall : ((L.drop a).take (b - a)).all host = true ↔ ∀ i, a ≤ i → i < b → host (L.getD i 0) = true := by
      rw [List.all_eq_true]
      constructor
      · intro h i h1 h2
        exact h _ (List.mem_of_getElem? (by have := hg (i - a) (by omega); rwa [show a + (i - a) = i from by omega] at this))
      · intro h x hx
        obtain ⟨k, hk, rfl⟩ := List.mem_iff_getElem.1 hx
        rw [hl] at hk
        have := hg k hk
        rw [List.getElem?_eq_getElem (by omega), Option.some.injEq] at this
        rw [this]
        exact h (a + k) (by omega) (by omega)
    rw [hh, ht, hall]
    simp only [hne, not_false_eq_true, true_and, Option.some.injEq, h1]
    constructor
    · rintro ⟨⟨⟨p1, p2⟩, p3⟩, p4⟩; exact ⟨p1, p2, p3, p4⟩
    · rintro ⟨p1, p2, p3, p4⟩; exact ⟨⟨⟨p1, p2⟩, p3⟩, p4⟩
  · have he : (L.drop a).take (b - a) = [] := List.eq_nil_of_length_eq_zero (by omega)
    simp [he, h1]

theorem star_iff {L : List UInt8} {a b : Nat} (hb : b ≤ L.length) (hab : a ≤ b) : ((L.drop a).take (b - a) == [42]) = true ↔ b - a = 1 ∧ L.getD a 0 = 42 := by
  have hl : ((L.drop a).take (b - a)).length = b - a := by simp; omega
  rw [beq_iff_eq]
  constructor
  · intro h
    have h1 : b - a = 1 := by rw [h] at hl; simpa using hl.symm
    refine ⟨h1, ?_⟩
    have := congrArg (fun l => l[0]?) h
    simp only [h1] at this
    rw [List.getElem?_take_of_lt (by omega), List.getElem?_drop, Nat.add_zero, getD_of_lt (by omega)] at this
    simpa using this
  · rintro ⟨h1, h2⟩
    rw [h1, List.drop_eq_getElem_cons (by omega)]
    simp only [List.take_succ_cons, List.take_zero]
    rw [List.getD, List.getElem?_eq_getElem (by omega)] at h2
    simpa using h2

theorem digits_iff {L : List UInt8} {k : Nat} (hk : k ≤ L.length) : (L.drop k).all isD = true ↔ ∀ i, k ≤ i → i < L.length → isD (L.getD i 0) = true := by
  rw [List.all_eq_true]
  constructor
  · intro h i h1 h2
    exact h _ (List.mem_of_getElem? (i := i - k) (by rw [List.getElem?_drop, show k + (i - k) = i from by omega, getD_of_lt h2]))
  · intro h x hx
    obtain ⟨j, hj, rfl⟩ := List.mem_iff_getElem.1 hx
    simp only [List.length_drop] at hj
    rw [List.getElem_drop]
    have := h (k + j) (by omega) (by omega)
    rwa [List.getD, List.getElem?_eq_getElem (by omega)] at this

theorem At.shut {L : List UInt8} {n st j : Nat} (hn : n = L.length) (h : At L n st j) (hj : j ≤ n) (he : j = n ∨ L.getD j 0 = 46) :
    goods (decide (1 < n)) (pcs L) = ((((decide (st = 0) && decide (1 < n)) && (L.drop st).take (j - st) == [42]) || lab ((L.drop st).take (j - st))) && (if j = n then true else goods false (pcs (L.drop (j + 1))))) := by
  rcases h with ⟨_, h1, h2, h3⟩ | ⟨h1, _⟩
  · rw [h3]
    by_cases hjn : j = n
    · rw [if_pos hjn]
      subst hjn
      subst hn
      rw [pcs_end h2]
      simp [goods]
    · rw [if_neg hjn, pcs_at h1 (by omega) (by rcases he with e | e; exact absurd e hjn; exact e) h2, goods]
  · omega

theorem At.next {L : List UInt8} {n st j : Nat} (hn : n = L.length) (h : At L n st j) (hj : j ≤ n) (he : j = n ∨ L.getD j 0 = 46)
    (hg : (((decide (st = 0) && decide (1 < n)) && (L.drop st).take (j - st) == [42]) || lab ((L.drop st).take (j - st))) = true) : At L n (j + 1) (j + 1) := by
  have h2 := h.shut hn hj he
  rw [hg, Bool.true_and] at h2
  by_cases hjn : j = n
  · rw [if_pos hjn] at h2
    exact .inr ⟨by omega, h2⟩
  · rw [if_neg hjn] at h2
    refine .inl ⟨by omega, Nat.le_refl _, fun i h1 h3 => by omega, ?_⟩
    rw [h2]
    simp

theorem At.skip {L : List UInt8} {n st j : Nat} (h : At L n st j) (hj : j < n) (he : L.getD j 0 ≠ 46) : At L n st (j + 1) := by
  rcases h with ⟨_, h1, h2, h3⟩ | ⟨h1, _⟩
  · refine .inl ⟨by omega, by omega, fun i k1 k2 => ?_, h3⟩
    by_cases hij : i = j
    · subst hij; exact he
    · exact h2 i k1 (by omega)
  · omega

theorem getD_ne46 {b : UInt8} (h : b ≠ 46) : ((b.toNat : Int) != 46) = true := by
  rw [bne, show ((b.toNat : Int) == 46) = (b == 46) from u8_beq b 46 (by omega)]
  simpa using h
theorem getD_eq46 {b : UInt8} (h : b = 46) : ((b.toNat : Int) != 46) = false := by
  subst h; rfl

set_option maxHeartbeats 1000000 in
theorem dnsModel_any (s : ByteArray) (w : World) (hs : s.size ≤ 1048576) :
    Calls Tryd.prog 11 #[.string s] w fun e w' => e = .returned (.bool (dns s.data.toList)) ∧ w = w' := by
  obtain ⟨L, hL⟩ : ∃ L, L = s.data.toList := ⟨_, rfl⟩
  have hnL : s.size = L.length := by rw [hL]; simp
  rw [← hL]
  have hix : ∀ (i : Nat) (wx : World), i < s.size → (Instr.index 9 (.string s) (.int .i64 i)).run Tryd.prog wx = .ok (.int .u8 ((L.getD i 0).toNat : Int)) wx := fun i wx hi => by
    have := idx_str s i (by omega) wx
    rwa [at_, ← hL] at this
  by_cases h253 : s.size ≤ 253
  · have z0 : ¬ ((s.size : Int) > 253) := by omega
    obtain ⟨D, hD⟩ : ∃ D, D = dns L := ⟨_, rfl⟩
    rw [← hD]
    have HX : Hid (s.size = L.length ∧ L = s.data.toList ∧ D = dns L) := ⟨hnL, hL, hD⟩
    have HI : Hid _ := hix
    clear hix hnL hL hD
    go_enter Tryd.func11, Tryd.ntmps11
    go_wp2
    go_loopg [4, 5, 6] (s.size + 1) (fun g s4 s5 s6 wx => wx = w ∧ ∃ (st j : Nat) (f : Bool), j + g = s.size + 1 ∧ s4 = .int .i64 st ∧ s5 = .bool f ∧ f = decide (st = 0) ∧ s6 = .int .i64 j ∧ At L s.size st j)
    case atStart => exact ⟨rfl, 0, 0, true, by omega, rfl, rfl, rfl, rfl, .inl ⟨Nat.zero_le _, Nat.le_refl _, fun i h1 h2 => by omega, by simp⟩⟩
    case round =>
      obtain ⟨rfl, st, j, f, hjg, rfl, rfl, hf, rfl, hat⟩ := hrel
      have HA : Hid _ := hat
      have HF : Hid _ := hf
      clear hat hf
      cases gk with
      | zero =>
        obtain rfl : j = s.size + 1 := by omega
        have z1 : ¬ ((s.size : Int) + 1 ≤ (s.size : Int)) := by omega
        go_wp2
        go_loopg [8] s.size (fun g s8 wx => wx = wr ∧ ∃ k : Nat, k ≤ g ∧ k ≤ s.size ∧ s8 = .int .i64 k ∧ ∀ i, k ≤ i → i < s.size → L.getD i 0 ≠ 46)
        case atStart => exact ⟨rfl, s.size, Nat.le_refl _, Nat.le_refl _, rfl, fun i h1 h2 => by omega⟩
        case round =>
          obtain ⟨rfl, k, hkg, hks, rfl, hall⟩ := hrel
          have HB : Hid _ := hall
          clear hall
          by_cases hk0 : 0 < k
          · have zk : (k : Int) > 0 := by omega
            have e1 := HI.out (k - 1) wr (by omega)
            rw [show ((k - 1 : Nat) : Int) = (k : Int) - 1 from by omega] at e1
            obtain ⟨X, hX⟩ : ∃ X, X = L.getD (k - 1) 0 := ⟨_, rfl⟩
            rw [← hX] at e1
            have HXX : Hid _ := hX
            clear hX
            by_cases hx : X = 46
            · have zx := getD_eq46 hx
              have HQ : Hid _ := hx
              clear hx
              have hl : lastp L = L.drop k := lastp_at (by rw [← HX.out.1]; exact hks) (.inr ⟨hk0, by rw [← HXX.out]; exact HQ.out⟩) (fun i h1 h2 => HB.out i h1 (by rw [HX.out.1]; exact h2))
              have hm := digits_any s k s.size wr (Nat.le_refl _) hs ((lastp L).all isD) (by
                rw [hl, digits_iff (by rw [← HX.out.1]; exact hks), ← HX.out.1, HX.out.2.1]) hks
              have hDv : D = !(lastp L).all isD := by
                rw [HX.out.2.2]
                unfold dns
                rcases HA.out with ⟨q, _⟩ | ⟨_, q⟩
                · omega
                · rw [← HX.out.1, q]; simp [h253]
              clear hl
              obtain ⟨T, hT⟩ : ∃ T, T = (lastp L).all isD := ⟨_, rfl⟩
              rw [← hT] at hm hDv
              subst hDv
              clear hT HX
              go_wp2_with fail
              refine hm.mono ?_
              rintro e w1 ⟨rfl, rfl⟩
              go_wp2
              go_ret
              exact ⟨rfl, rfl⟩
            · have zx := getD_ne46 hx
              have HQ : Hid _ := hx
              clear hx
              cases gk with
              | zero => omega
              | succ g =>
                go_wp2
                go_roundg g
                case measure => omega
                case rel =>
                  refine ⟨rfl, k - 1, by omega, by omega, ?_, fun i h1 h2 => ?_⟩
                  · rw [show ((k - 1 : Nat) : Int) = (k : Int) - 1 from by omega]
                  · by_cases hik : i = k - 1
                    · subst hik; rw [← HXX.out]; exact HQ.out
                    · exact HB.out i (by omega) h2
          · have zk : ¬ (k : Int) > 0 := by omega
            have hl : lastp L = L.drop k := lastp_at (by rw [← HX.out.1]; exact hks) (.inl (by omega)) (fun i h1 h2 => HB.out i h1 (by rw [HX.out.1]; exact h2))
            have hm := digits_any s k s.size wr (Nat.le_refl _) hs ((lastp L).all isD) (by
              rw [hl, digits_iff (by rw [← HX.out.1]; exact hks), ← HX.out.1, HX.out.2.1]) hks
            have hDv : D = !(lastp L).all isD := by
              rw [HX.out.2.2]
              unfold dns
              rcases HA.out with ⟨q, _⟩ | ⟨_, q⟩
              · omega
              · rw [← HX.out.1, q]; simp [h253]
            clear hl
            obtain ⟨T, hT⟩ : ∃ T, T = (lastp L).all isD := ⟨_, rfl⟩
            rw [← hT] at hm hDv
            subst hDv
            clear hT HX
            go_wp2_with fail
            refine hm.mono ?_
            rintro e w1 ⟨rfl, rfl⟩
            go_wp2
            go_ret
            exact ⟨rfl, rfl⟩
      | succ g =>
        have hjn : j ≤ s.size := by omega
        have hst : st ≤ j := by
          rcases HA.out with ⟨_, q, _⟩ | ⟨q, _⟩ <;> omega
        have zj : (j : Int) ≤ (s.size : Int) := by omega
        by_cases hc : j < s.size ∧ L.getD j 0 ≠ 46
        · have zl : (j : Int) < (s.size : Int) := by omega
          have e1 := HI.out j wr hc.1
          obtain ⟨X, hX⟩ : ∃ X, X = L.getD j 0 := ⟨_, rfl⟩
          rw [← hX] at e1 hc
          have zx := getD_ne46 hc.2
          have HQ : Hid _ := hc
          clear hc
          rw [hX] at HQ
          clear hX
          go_wp2
          go_roundg g
          case measure => omega
          case rel =>
            exact ⟨rfl, st, j + 1, f, by omega, rfl, rfl, HF.out, by first | rfl | simp, At.skip HA.out HQ.out.1 HQ.out.2⟩
        · have HE : Hid (j = s.size ∨ L.getD j 0 = 46) := by
            by_cases h1 : j = s.size
            · exact .inl h1
            · refine .inr (Decidable.byContradiction fun h => hc ⟨by omega, h⟩)
          clear hc
          go_upto_region 9 with fail
          go_cut [26] from 13 to 54 (fun s26 wx => s26 = .bool false ∧ wr = wx)
          case first =>
            by_cases h1 : j < s.size
            · have zl : (j : Int) < (s.size : Int) := by omega
              have e1 := HI.out j wr h1
              have h46 : L.getD j 0 = 46 := by rcases HE.out with e | e; omega; exact e
              rw [h46] at e1
              clear h46
              go_wp2
              go_meet
              case rel => exact ⟨rfl, rfl⟩
            · have zl : ¬ (j : Int) < (s.size : Int) := by omega
              go_wp2
              go_meet
              case rel => exact ⟨rfl, rfl⟩
          case rest =>
            obtain ⟨rfl, hwc⟩ := hcut
            subst hwc
            go_upto_region 10 with fail
            obtain ⟨W, hW⟩ := bool_of (st = 0 ∧ j - st = 1 ∧ L.getD st 0 = 42 ∧ 1 < s.size)
            have HW : Hid _ := hW
            clear hW
            go_cut [7] from 13 to 54 (fun s7 wx => s7 = .bool W ∧ wr = wx)
            case first => as_aux_lemma =>
              cases f
              · have h0 : ¬ st = 0 := by simpa using HF.out.symm
                obtain rfl : W = false := by
                  cases W
                  · rfl
                  · exact absurd (HW.out.1 rfl).1 h0
                clear h0
                go_wp2
                go_meet
                case rel => exact ⟨rfl, rfl⟩
              · have H0 : Hid (st = 0) := (by simpa using HF.out.symm : st = 0)
                by_cases hj1 : j - st = 1
                · have zj1 : ((j : Int) - (st : Int) == 1) = true := by rw [beq_iff_eq]; omega
                  have e1 := HI.out st wr (by omega)
                  obtain ⟨X, hX⟩ : ∃ X, X = L.getD st 0 := ⟨_, rfl⟩
                  rw [← hX] at e1 HW
                  have HXX : Hid _ := hX
                  clear hX
                  by_cases hx : X = 42
                  · have zx : ((X.toNat : Int) == 42) = true := by rw [hx]; rfl
                    by_cases hn1 : 1 < s.size
                    · have zn : (s.size : Int) > 1 := by omega
                      obtain rfl : W = true := HW.out.2 ⟨H0.out, hj1, hx, hn1⟩
                      clear hx hj1
                      go_wp2
                      go_meet
                      case rel => exact ⟨rfl, rfl⟩
                    · have zn : ¬ (s.size : Int) > 1 := by omega
                      obtain rfl : W = false := by
                        cases W
                        · rfl
                        · exact absurd (HW.out.1 rfl).2.2.2 hn1
                      clear hx hj1
                      go_wp2
                      go_meet
                      case rel => exact ⟨rfl, rfl⟩
                  · have zx : ((X.toNat : Int) == 42) = false := by rw [show ((X.toNat : Int) == 42) = (X == 42) from u8_beq X 42 (by omega)]; simpa using hx
                    obtain rfl : W = false := by
                      cases W
                      · rfl
                      · exact absurd (HW.out.1 rfl).2.2.1 hx
                    clear hx hj1
                    go_wp2
                    go_meet
                    case rel => exact ⟨rfl, rfl⟩
                · have zj1 : ((j : Int) - (st : Int) == 1) = false := by rw [beq_eq_false_iff_ne]; omega
                  obtain rfl : W = false := by
                    cases W
                    · rfl
                    · exact absurd (HW.out.1 rfl).2.1 hj1
                  clear hj1
                  go_wp2
                  go_meet
                  case rel => exact ⟨rfl, rfl⟩
            case rest => as_aux_lemma =>
              obtain ⟨rfl, hwc⟩ := hcut
              subst hwc
              have HWW : Hid (W = ((decide (st = 0) && decide (1 < s.size)) && (L.drop st).take (j - st) == [42])) := by
                show W = _
                rw [Bool.eq_iff_iff, HW.out, Bool.and_eq_true, Bool.and_eq_true, star_iff (by rw [← HX.out.1]; exact hjn) hst, decide_eq_true_iff, decide_eq_true_iff]
                constructor
                · rintro ⟨p1, p2, p3, p4⟩; exact ⟨⟨p1, p4⟩, p2, p3⟩
                · rintro ⟨⟨p1, p4⟩, p2, p3⟩; exact ⟨p1, p2, p3, p4⟩
              cases W
              · obtain ⟨T, hT⟩ : ∃ T, T = lab ((L.drop st).take (j - st)) := ⟨_, rfl⟩
                have hm := label_any s st j wr hjn hs T (by
                  rw [hT, lab_iff (by rw [← HX.out.1]; exact hjn) hst, HX.out.2.1]) hst
                have HT : Hid _ := hT
                clear hT
                cases T
                · have hDf : D = false := by
                    rw [HX.out.2.2]
                    unfold dns
                    have := At.shut (L := L) (n := s.size) (st := st) (j := j) HX.out.1 HA.out hjn HE.out
                    rw [← HWW.out, ← HT.out] at this
                    rw [← HX.out.1, this]
                    simp
                  subst hDf
                  go_wp2_with fail
                  refine hm.mono ?_
                  rintro e w1 ⟨rfl, rfl⟩
                  go_wp2
                  go_ret
                  exact ⟨rfl, rfl⟩
                · go_wp2_with fail
                  refine hm.mono ?_
                  rintro e w1 ⟨rfl, rfl⟩
                  go_wp2
                  go_roundg g
                  case measure => omega
                  case rel =>
                    exact ⟨rfl, j + 1, j + 1, false, by omega, by first | rfl | simp, rfl, by simp, by first | rfl | simp, At.next HX.out.1 HA.out hjn HE.out (by rw [← HWW.out, ← HT.out]; rfl)⟩
              · go_wp2
                go_roundg g
                case measure => omega
                case rel =>
                  exact ⟨rfl, j + 1, j + 1, false, by omega, by first | rfl | simp, rfl, by simp, by first | rfl | simp, At.next HX.out.1 HA.out hjn HE.out (by rw [← HWW.out]; rfl)⟩
  · have z0 : ((s.size : Int) > 253) := by omega
    have e : dns L = false := by unfold dns; rw [← hnL]; simp [h253]
    rw [e]
    clear hix hnL hL e
    go_enter Tryd.func11, Tryd.ntmps11
    go_wp2
    go_ret
    exact ⟨rfl, rfl⟩
end Go.Proofs.Qxb6603125aDoor
