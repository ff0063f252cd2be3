import Derived.Test.Qxb6603202aDoorSpace
import Derived.Lib.IndexMore
namespace Go.Proofs.Qxb6603202aDoor
open Go

def sqz : Bool → List UInt8 → List UInt8
  | _, [] => []
  | pv, c :: l => if c = 32 ∧ pv = true then sqz true l else c :: sqz (c == 32) l

def sm : Bool → Bool → List UInt8 → List UInt8
  | _, _, [] => []
  | ne, inw, c :: l => if c = 32 then sm ne false l else (if inw || !ne then [] else [32]) ++ c :: sm true true l

theorem sqz_same : ∀ (l : List UInt8), ¬ 0 ≤ Lib.index l [32, 32] → ∀ pv, (pv = true → l.head? ≠ some 32) → sqz pv l = l
  | [], _, _, _ => rfl
  | c :: t, h, pv, hp => by
    have h1 : ¬ ([32, 32] : List UInt8).isPrefixOf (c :: t) = true := fun e => h (by rw [Lib.index, if_pos e]; decide)
    have h2 : ¬ 0 ≤ Lib.index t [32, 32] := fun e => h (by
      rw [Lib.index]
      have hge : (Lib.index t [32, 32] == -1) = false := by rw [beq_eq_false_iff_ne]; omega
      rw [if_neg h1, hge]
      simp only [Bool.false_eq_true, if_false]
      omega)
    have h3 : ¬ (c = 32 ∧ pv = true) := fun e => hp e.2 (by rw [e.1]; rfl)
    rw [sqz, if_neg h3, sqz_same t h2]
    intro hc e
    have hc2 : c = 32 := by simpa using hc
    cases t with
    | nil => cases e
    | cons d r =>
      have hd : d = 32 := by simpa using e
      apply h1
      rw [hc2, hd]
      simp [List.isPrefixOf]

theorem sm_gap {R : List UInt8} (h : R = [] ∨ R.head? = some 32) : sm true true R = sm true false R := by
  rcases h with rfl | h
  · rfl
  · cases R with
    | nil => rfl
    | cons c r =>
      have : c = 32 := by simpa using h
      subst this
      rw [sm, sm, if_pos rfl, if_pos rfl]
theorem sm_in : ∀ (P : List UInt8), (∀ x ∈ P, x ≠ 32) → ∀ R, sm true true (P ++ R) = P ++ sm true true R
  | [], _, R => rfl
  | c :: P, h, R => by
    rw [List.cons_append, sm, if_neg (h c (by simp)), sm_in P (fun x hx => h x (by simp [hx])) R]
    rfl
theorem sm_word {P : List UInt8} (h : ∀ x ∈ P, x ≠ 32) (hne : P ≠ []) (ne : Bool) (R : List UInt8) (hR : R = [] ∨ R.head? = some 32) : sm ne false (P ++ R) = (if ne then [32] else []) ++ P ++ sm true false R := by
  cases P with
  | nil => exact absurd rfl hne
  | cons c P =>
    rw [List.cons_append, sm, if_neg (h c (by simp)), sm_in P (fun x hx => h x (by simp [hx])) R, sm_gap hR]
    cases ne <;> simp
theorem sm_space (ne : Bool) (l : List UInt8) : sm ne false (32 :: l) = sm ne false l := by
  rw [sm, if_pos rfl]

theorem sm_sqz : ∀ (l : List UInt8), l.getLast? ≠ some 32 → sm true true l = sqz false l ∧ (l ≠ [] → sm true false l = 32 :: sqz true l)
  | [], _ => ⟨rfl, fun h => absurd rfl h⟩
  | c :: t, h => by
    have ht : t.getLast? ≠ some 32 := by
      cases t with
      | nil => simp
      | cons d r => rwa [List.getLast?_cons_cons] at h
    obtain ⟨i1, i2⟩ := sm_sqz t ht
    by_cases hc : c = 32
    · have htn : t ≠ [] := by
        rintro rfl
        apply h
        rw [hc]; rfl
      have e := i2 htn
      subst hc
      refine ⟨?_, fun _ => ?_⟩
      · rw [sm, if_pos rfl, e, sqz, if_neg (by simp)]
        rfl
      · rw [sm, if_pos rfl, e, sqz, if_pos ⟨rfl, rfl⟩]
    · have hb : (c == 32) = false := by simpa using hc
      refine ⟨?_, fun _ => ?_⟩
      · rw [sm, if_neg hc, sqz, if_neg (c := c = 32 ∧ _) (fun e => hc e.1), hb, i1]
        rfl
      · rw [sm, if_neg hc, sqz, if_neg (c := c = 32 ∧ _) (fun e => hc e.1), hb, i1]
        rfl

theorem join_eq {T : List UInt8} (h1 : T.head? ≠ some 32) (h2 : T.getLast? ≠ some 32) : sm false false T = sqz false T := by
  cases T with
  | nil => rfl
  | cons c t =>
    have hc : c ≠ 32 := by simpa using h1
    have hb : (c == 32) = false := by simpa using hc
    have ht : t.getLast? ≠ some 32 := by
      cases t with
      | nil => simp
      | cons d r => rwa [List.getLast?_cons_cons] at h2
    rw [sm, if_neg hc, sqz, if_neg (c := c = 32 ∧ _) (fun e => hc e.1), hb, (sm_sqz t ht).1]
    rfl

theorem sqz_step {T : List UInt8} {i : Nat} (hi : i < T.length) (pv : Bool) : sqz pv (T.drop i) = if T.getD i 0 = 32 ∧ pv = true then sqz true (T.drop (i + 1)) else T.getD i 0 :: sqz (T.getD i 0 == 32) (T.drop (i + 1)) := by
  rw [List.drop_eq_getElem_cons hi, sqz]
  have : T.getD i 0 = T[i] := by rw [List.getD, List.getElem?_eq_getElem hi]; rfl
  rw [this]

theorem SL_head : ∀ (f : Nat) (l : List UInt8), l.length ≤ f → Lib.headSpace (SL l) = 0 := by
  intro f
  induction f with
  | zero =>
    intro l h
    have : l = [] := List.eq_nil_of_length_eq_zero (by omega)
    subst this
    exact Lib.headSpace_nil
  | succ f ih =>
    intro l h
    by_cases hz : Lib.headSpace l = 0
    · rw [SL_stop hz]; exact hz
    · rw [SL_step hz]
      have := head_take hz
      refine ih _ ?_
      rw [List.length_drop]; omega
theorem SR_tail : ∀ (f : Nat) (l : List UInt8), l.length ≤ f → Lib.tailSpace (SR l) = 0 ∧ SR l <+: l := by
  intro f
  induction f with
  | zero =>
    intro l h
    have : l = [] := List.eq_nil_of_length_eq_zero (by omega)
    subst this
    exact ⟨Lib.tailSpace_nil, List.prefix_refl _⟩
  | succ f ih =>
    intro l h
    by_cases hz : Lib.tailSpace l = 0
    · rw [SR_stop hz]; exact ⟨hz, List.prefix_refl _⟩
    · rw [SR_step hz]
      have h2 := tail_drop hz
      obtain ⟨a, b⟩ := ih (l.take (l.length - Lib.tailSpace l)) (by rw [List.length_take]; omega)
      exact ⟨a, b.trans (List.take_prefix _ _)⟩
theorem trim_ends (l : List UInt8) : (Lib.trimSpaceD l).head? ≠ some 32 ∧ (Lib.trimSpaceD l).getLast? ≠ some 32 := by
  rw [trim_SR]
  obtain ⟨h1, h2⟩ := SR_tail _ (SL l) (Nat.le_refl _)
  have h3 := SL_head _ l (Nat.le_refl _)
  constructor
  · intro e
    cases hq : SR (SL l) with
    | nil => rw [hq] at e; cases e
    | cons c t =>
      rw [hq] at e h2
      have hc : c = 32 := by simpa using e
      obtain ⟨r, hr⟩ := h2
      rw [← hr, List.cons_append] at h3
      exact head_zero_ne h3 hc
  · intro e
    rcases List.eq_nil_or_concat (SR (SL l)) with hq | ⟨t, c, hq⟩
    · rw [hq] at e; cases e
    · rw [hq] at e h1
      have hc : c = 32 := by simpa using e
      rw [List.concat_eq_append] at h1
      exact tail_zero_ne h1 hc
end Go.Proofs.Qxb6603202aDoor
