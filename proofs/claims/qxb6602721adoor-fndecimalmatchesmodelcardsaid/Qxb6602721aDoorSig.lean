import Derived.Test.Qxb6602721aDoorShape
import Derived.Lib.TrimByte
namespace Go.Proofs.Qxb6602721aDoor
open Go.RowKit
open Go

def noDot (l : List UInt8) : List UInt8 := l.filter (fun b => b != 46)

def Sg (q : List UInt8) (F L : Int) : Prop :=
  (F = -1 ∧ L = -1 ∧ ∃ a, q = List.replicate a 48) ∨ ∃ a m z, q = List.replicate a 48 ++ m ++ List.replicate z 48 ∧ m.head? ≠ some 48 ∧ m.getLast? ≠ some 48 ∧ m ≠ [] ∧ F = (a : Int) ∧ L = (a : Int) + m.length - 1

theorem Sg.start : Sg [] (-1) (-1) := .inl ⟨rfl, rfl, 0, rfl⟩
theorem Sg.zero {q : List UInt8} {F L : Int} (h : Sg q F L) : Sg (q ++ [48]) F L := by
  rcases h with ⟨h1, h2, a, rfl⟩ | ⟨a, m, z, rfl, h1, h2, h3, h4, h5⟩
  · exact .inl ⟨h1, h2, a + 1, by rw [List.replicate_succ']⟩
  · exact .inr ⟨a, m, z + 1, by simp [List.replicate_succ'], h1, h2, h3, h4, h5⟩
theorem Sg.non {q : List UInt8} {F L : Int} (h : Sg q F L) {c : UInt8} (hc : c ≠ 48) : Sg (q ++ [c]) (if F < 0 then (q.length : Int) else F) (q.length : Int) := by
  rcases h with ⟨h1, h2, a, rfl⟩ | ⟨a, m, z, rfl, h1, h2, h3, h4, h5⟩
  · right
    refine ⟨a, [c], 0, by simp, by simpa using hc, by simpa using hc, by simp, ?_, ?_⟩
    · rw [h1]; simp
    · simp
  · right
    refine ⟨a, m ++ List.replicate z 48 ++ [c], 0, by simp, ?_, ?_, by simp, ?_, ?_⟩
    · cases m with
      | nil => exact absurd rfl h3
      | cons x r => simpa using h1
    · simpa using hc
    · rw [h4, if_neg (by omega)]
    · simp only [List.length_append, List.length_replicate, List.length_cons, List.length_nil]; omega
theorem Sg.fin {q : List UInt8} {F L : Int} (h : Sg q F L) : (F < 0 ∧ (Lib.trimB q 48).length = 0) ∨ (0 ≤ F ∧ L - F + 1 = ((Lib.trimB q 48).length : Int)) := by
  have key : ∀ (l r : List UInt8), (∀ x ∈ l, (x == (48 : UInt8)) = true) → (l ++ r).dropWhile (· == 48) = r.dropWhile (· == 48) := fun l r h => List.dropWhile_append_of_pos h
  have stop : ∀ r : List UInt8, r.head? ≠ some 48 → r.dropWhile (· == 48) = r := by
    intro r h
    cases r with
    | nil => rfl
    | cons x t =>
      have : (x == (48 : UInt8)) = false := by simpa using h
      rw [List.dropWhile_cons_of_neg (by simp [this])]
  have rep : ∀ n, ∀ x ∈ List.replicate n (48 : UInt8), (x == (48 : UInt8)) = true := fun n x hx => by rw [List.eq_of_mem_replicate hx]; rfl
  rcases h with ⟨h1, h2, a, rfl⟩ | ⟨a, m, z, rfl, h1, h2, h3, h4, h5⟩
  · left
    refine ⟨by omega, ?_⟩
    unfold Lib.trimB Lib.trimLeftB Lib.trimRightB
    have := key (List.replicate a 48) [] (rep a)
    rw [List.append_nil] at this
    rw [List.reverse_replicate, this]
    rfl
  · right
    have hr : Lib.trimRightB (List.replicate a 48 ++ m ++ List.replicate z 48) 48 = List.replicate a 48 ++ m := by
      unfold Lib.trimRightB
      rw [List.reverse_append, List.reverse_replicate, key _ _ (rep z), stop _ (by rw [List.head?_reverse, List.getLast?_append]; cases hm : m.getLast? with
        | none => exact absurd (List.getLast?_eq_none_iff.1 hm) h3
        | some x => rw [hm] at h2; simpa using h2), List.reverse_reverse]
    have hl : Lib.trimB (List.replicate a 48 ++ m ++ List.replicate z 48) 48 = m := by
      unfold Lib.trimB
      rw [hr]
      unfold Lib.trimLeftB
      rw [key _ _ (rep a), stop _ h1]
    rw [hl]
    omega

theorem noDot_step {f : List UInt8} {p i : Nat} (hi : p ≤ i) (hf : i < f.length) : noDot ((f.drop p).take (i + 1 - p)) = noDot ((f.drop p).take (i - p)) ++ (if f.getD i 0 = 46 then [] else [f.getD i 0]) := by
  have e : (f.drop p).take (i + 1 - p) = (f.drop p).take (i - p) ++ [f.getD i 0] := by
    rw [show i + 1 - p = (i - p) + 1 from by omega, List.take_add_one]
    congr 1
    rw [List.getElem?_drop, show p + (i - p) = i from by omega, List.getElem?_eq_getElem hf]
    simp [List.getD, hf]
  rw [e]
  unfold noDot
  rw [List.filter_append]
  congr 1
  generalize f.getD i 0 = c
  by_cases h : c = 46
  · rw [if_pos h, h]; rfl
  · rw [if_neg h]
    simp [h]

def SigP (w : World) (q : List UInt8) (e : Ending) (w' : World) : Prop := e = .returned (.int .i64 ((Lib.trimB q 48).length : Int)) ∧ w = w'

set_option maxHeartbeats 3200000 in
set_option maxRecDepth 1000000 in
theorem sig_any (s : ByteArray) (p : Nat) (w : World) (hs : s.size ≤ 1048576) (hp : p ≤ s.size) : Calls Tryd.prog 11 #[.string s, .int .i64 p] w fun e w' => SigP w (noDot (s.data.toList.drop p)) e w' := by
  obtain ⟨f, hf⟩ : ∃ f, f = s.data.toList := ⟨_, rfl⟩
  have hfl : f.length = s.size := by rw [hf]; exact (size_list s).symm
  rw [← hf]
  have hidx : ∀ i wx, i < s.size → (Instr.index 9 (.string s) (.int .i64 i)).run Tryd.prog wx = .ok (.int .u8 ((f.getD i 0).toNat : Int)) wx := fun i wx h => by rw [hf]; exact idx_str s i h wx
  have HX : Hid _ := And.intro hfl hidx
  obtain ⟨n, hn⟩ : ∃ n, n = s.size := ⟨_, rfl⟩
  rw [← hn] at hs hp
  have hnz : (s.size : Int) = (n : Int) := by omega
  have HN : Hid (n = s.size) := hn
  clear hf hfl hidx hn
  go_enter Tryd.func11, Tryd.ntmps11
  go_wp2
  go_loopg [5, 6, 7, 8] (n - p) (fun g s5 s6 s7 s8 wx => ∃ (i : Nat) (F L : Int) (k : Nat), i + g = n ∧ p ≤ i ∧ s8 = .int .i64 i ∧ s5 = .int .i64 F ∧ s6 = .int .i64 L ∧ s7 = .int .i64 k ∧ k = (noDot ((f.drop p).take (i - p))).length ∧ k ≤ i ∧ -1 ≤ F ∧ F ≤ i ∧ -1 ≤ L ∧ L ≤ i ∧ Sg (noDot ((f.drop p).take (i - p))) F L ∧ w = wx)
  case atStart => exact ⟨p, -1, -1, 0, by omega, Nat.le_refl _, rfl, rfl, rfl, rfl, by simp [noDot], by omega, by omega, by omega, by omega, by omega, by simpa [noDot] using Sg.start, rfl⟩
  case round =>
    obtain ⟨i, F, L, k, hig, hpi, rfl, rfl, rfl, rfl, hk, hki, hF1, hF2, hL1, hL2, hsg, rfl⟩ := hrel
    have HR : Hid _ := And.intro hk hsg
    clear hk hsg
    cases gk with
    | zero =>
      obtain rfl : i = n := by omega
      have hq : (f.drop p).take (i - p) = f.drop p := List.take_of_length_le (by rw [List.length_drop, HX.out.1, ← HN.out]; exact Nat.le_refl _)
      have hfin := HR.out.2.fin
      rw [hq] at hfin
      obtain ⟨T, hT⟩ : ∃ T : Nat, T = (Lib.trimB (noDot (f.drop p)) 48).length := ⟨_, rfl⟩
      have HT : Hid (T = (Lib.trimB (noDot (f.drop p)) 48).length) := hT
      rw [← hT] at hfin
      clear hq hT
      by_cases hF0 : F < 0
      · obtain rfl : T = 0 := by omega
        clear hfin
        go_wp2
        go_ret
        exact ⟨by rw [← HT.out]; rfl, rfl⟩
      · have hz : L - F + 1 = (T : Int) := by omega
        have hz2 : L - F = (T : Int) - 1 := by omega
        clear hfin
        go_wp2
        go_ret
        exact ⟨by rw [← HT.out]; first | rfl | (congr 2; omega), rfl⟩
    | succ g =>
      have hiz : (i : Int) < (n : Int) := by omega
      have e1 := HX.out.2 i w (by rw [← HN.out]; omega)
      have hstep := noDot_step (f := f) hpi (by rw [HX.out.1, ← HN.out]; omega)
      obtain ⟨b, hb⟩ : ∃ b, b = f.getD i 0 := ⟨_, rfl⟩
      rw [← hb] at e1 hstep
      have HB : Hid _ := hstep
      clear hb hstep
      by_cases h46 : b = 46
      · subst h46
        rw [show ((46 : UInt8).toNat : Int) = 46 from rfl] at e1
        have HB2 : Hid (noDot ((f.drop p).take (i + 1 - p)) = noDot ((f.drop p).take (i - p))) := by
          show _ = _
          rw [HB.out, if_pos rfl, List.append_nil]
        clear HB
        go_wp2
        go_roundg g
        case measure => omega
        case rel => exact ⟨i + 1, F, L, k, by omega, by omega, by first | rfl | simp, rfl, rfl, rfl, by rw [HB2.out]; exact HR.out.1, by omega, by omega, by omega, by omega, by omega, by rw [HB2.out]; exact HR.out.2, rfl⟩
      · have hne : b.toNat ≠ 46 := fun e => h46 (UInt8.toNat_inj.1 e)
        have hz46 : ((b.toNat : Int) == 46) = false := by simp; omega
        have HB2 : Hid (noDot ((f.drop p).take (i + 1 - p)) = noDot ((f.drop p).take (i - p)) ++ [b]) := by
          show _ = _
          rw [HB.out, if_neg h46]
        have HL : Hid (k + 1 = (noDot ((f.drop p).take (i + 1 - p))).length) := by
          show _ = _
          rw [HB2.out, List.length_append, ← HR.out.1]; rfl
        clear HB h46 hne
        by_cases h48 : b = 48
        · subst h48
          rw [show ((48 : UInt8).toNat : Int) = 48 from rfl] at e1
          clear hz46
          go_wp2
          go_roundg g
          case measure => omega
          case rel => exact ⟨i + 1, F, L, k + 1, by omega, by omega, by first | rfl | simp, rfl, rfl, by first | rfl | simp, HL.out, by omega, by omega, by omega, by omega, by omega, by rw [HB2.out]; exact HR.out.2.zero, rfl⟩
        · have hne : b.toNat ≠ 48 := fun e => h48 (UInt8.toNat_inj.1 e)
          have hz48 : ((b.toNat : Int) != 48) = true := by simp; omega
          have HSG : Hid _ := HR.out.2.non h48
          rw [← HR.out.1] at HSG
          clear h48 hne
          by_cases hF0 : F < 0
          · have HSG2 : Hid (Sg (noDot ((f.drop p).take (i - p)) ++ [b]) (k : Int) (k : Int)) := by
              have := HSG.out
              rw [if_pos hF0] at this
              exact this
            clear HSG
            go_wp2
            go_roundg g
            case measure => omega
            case rel => exact ⟨i + 1, k, k, k + 1, by omega, by omega, by first | rfl | simp, rfl, rfl, by first | rfl | simp, HL.out, by omega, by omega, by omega, by omega, by omega, by rw [HB2.out]; exact HSG2.out, rfl⟩
          · have HSG2 : Hid (Sg (noDot ((f.drop p).take (i - p)) ++ [b]) F (k : Int)) := by
              have := HSG.out
              rw [if_neg hF0] at this
              exact this
            clear HSG
            go_wp2
            go_roundg g
            case measure => omega
            case rel => exact ⟨i + 1, F, k, k + 1, by omega, by omega, by first | rfl | simp, rfl, rfl, by first | rfl | simp, HL.out, by omega, by omega, by omega, by omega, by omega, by rw [HB2.out]; exact HSG2.out, rfl⟩
end Go.Proofs.Qxb6602721aDoor
