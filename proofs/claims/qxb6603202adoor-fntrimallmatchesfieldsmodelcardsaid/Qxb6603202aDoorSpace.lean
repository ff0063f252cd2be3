import Derived.Test.Qxb6603202aDoorMem
import Derived.Lib.SpaceUEq
namespace Go.Proofs.Qxb6603202aDoor
open Go
open Go.Lib

def three (c c1 c2 : UInt8) : Bool :=
  (c == 225 && c1 == 154 && c2 == 128) || (c == 226 && c1 == 128 && (decide (128 ≤ c2.toNat ∧ c2.toNat ≤ 138) || c2 == 168 || c2 == 169 || c2 == 175)) || (c == 226 && c1 == 129 && c2 == 159) || (c == 227 && c1 == 128 && c2 == 128)

def spLen : List UInt8 → Nat
  | [] => 0
  | [c] => if asp c then 1 else 0
  | [c, c1] => if asp c then 1 else if c = 194 ∧ (c1 = 133 ∨ c1 = 160) then 2 else 0
  | c :: c1 :: c2 :: _ => if asp c then 1 else if c = 194 then (if c1 = 133 ∨ c1 = 160 then 2 else 0) else if three c c1 c2 then 3 else 0

theorem sp1 (c : UInt8) : spLen [c] = if asp c then 1 else 0 := rfl
theorem sp2 (c c1 : UInt8) : spLen [c, c1] = if asp c then 1 else if c = 194 ∧ (c1 = 133 ∨ c1 = 160) then 2 else 0 := rfl
theorem sp3 (c c1 c2 : UInt8) (t : List UInt8) : spLen (c :: c1 :: c2 :: t) = if asp c then 1 else if c = 194 then (if c1 = 133 ∨ c1 = 160 then 2 else 0) else if three c c1 c2 then 3 else 0 := rfl

theorem seq_len : ∀ q ∈ spaceSeqs, 1 ≤ q.length ∧ q.length ≤ 3 := by decide

theorem sp_seq : ∀ q ∈ spaceSeqs, ∀ t : List UInt8, spLen (q ++ t) = q.length := by
  intro q hq t
  have h2 : ∀ c c1 : UInt8, ([c, c1] : List UInt8) ∈ spaceSeqs → asp c = false ∧ c = 194 ∧ (c1 = 133 ∨ c1 = 160) := by
    intro c c1 h
    simp only [spaceSeqs, List.mem_cons, List.cons.injEq, List.not_mem_nil, or_false, reduceCtorEq, and_false, false_or, and_true] at h
    rcases h with ⟨rfl, rfl⟩ | ⟨rfl, rfl⟩
    · exact ⟨rfl, rfl, .inl rfl⟩
    · exact ⟨rfl, rfl, .inr rfl⟩
  simp only [spaceSeqs, List.mem_cons, List.not_mem_nil, or_false] at hq
  rcases hq with rfl | rfl | rfl | rfl | rfl | rfl | rfl | rfl | rfl | rfl | rfl | rfl | rfl | rfl | rfl | rfl | rfl | rfl | rfl | rfl | rfl | rfl | rfl | rfl | rfl <;>
    first
    | rfl
    | (rcases t with _ | ⟨c1, _ | ⟨c2, t⟩⟩ <;> rfl)

theorem one_mem {c : UInt8} (h : asp c = true) : [c] ∈ spaceSeqs := by
  simp only [asp, spcs, List.contains_eq_mem, List.mem_cons, List.not_mem_nil, or_false, decide_eq_true_eq] at h
  rcases h with rfl | rfl | rfl | rfl | rfl | rfl <;> decide
theorem two_mem {c1 : UInt8} (h : c1 = 133 ∨ c1 = 160) : [194, c1] ∈ spaceSeqs := by
  rcases h with rfl | rfl <;> decide
theorem three_mem {c c1 c2 : UInt8} (h : three c c1 c2 = true) : [c, c1, c2] ∈ spaceSeqs := by
  simp only [three, Bool.or_eq_true, Bool.and_eq_true, beq_iff_eq, decide_eq_true_eq] at h
  rcases h with ((⟨⟨rfl, rfl⟩, rfl⟩ | ⟨⟨rfl, rfl⟩, h⟩) | ⟨⟨rfl, rfl⟩, rfl⟩) | ⟨⟨rfl, rfl⟩, rfl⟩
  · decide
  · have := mem3 ⟨c2.toNat, c2.toNat_lt⟩ (by
      rcases h with ((h | rfl) | rfl) | rfl
      · exact .inl h
      · exact .inr (.inl rfl)
      · exact .inr (.inr (.inl rfl))
      · exact .inr (.inr (.inr rfl)))
    simpa using this
  · decide
  · decide

theorem sp_mem : ∀ (l : List UInt8), spLen l ≠ 0 → l.take (spLen l) ∈ spaceSeqs
  | [], h => absurd rfl h
  | [c], h => by
    rw [sp1] at h ⊢
    split at h
    · rename_i ha; rw [if_pos ha]; exact one_mem ha
    · exact absurd rfl h
  | [c, c1], h => by
    rw [sp2] at h ⊢
    split at h
    · rename_i ha; rw [if_pos ha]; exact one_mem ha
    · rename_i ha
      rw [if_neg ha]
      split at h
      · rename_i hb; rw [if_pos hb, hb.1]; exact two_mem hb.2
      · exact absurd rfl h
  | c :: c1 :: c2 :: t, h => by
    rw [sp3] at h ⊢
    split at h
    · rename_i ha; rw [if_pos ha]; exact one_mem ha
    · rename_i ha
      rw [if_neg ha]
      split at h
      · rename_i hb
        rw [if_pos hb]
        split at h
        · rename_i hc; rw [if_pos hc, hb]; exact two_mem hc
        · exact absurd rfl h
      · rename_i hb
        rw [if_neg hb]
        split at h
        · rename_i hc; rw [if_pos hc]; exact three_mem hc
        · exact absurd rfl h

theorem head_cases (l : List UInt8) : (headSpace l = 0 ∧ ∀ q ∈ spaceSeqs, ¬ q.isPrefixOf l = true) ∨ ∃ q ∈ spaceSeqs, q.isPrefixOf l = true ∧ headSpace l = q.length := by
  unfold headSpace
  cases h : spaceSeqs.find? (·.isPrefixOf l) with
  | none => exact .inl ⟨rfl, fun q hq => by simpa using List.find?_eq_none.1 h q hq⟩
  | some q => exact .inr ⟨q, List.mem_of_find?_eq_some h, by simpa using List.find?_some h, rfl⟩
theorem tail_cases (l : List UInt8) : (tailSpace l = 0 ∧ ∀ q ∈ spaceSeqs, ¬ q.isSuffixOf l = true) ∨ ∃ q ∈ spaceSeqs, q.isSuffixOf l = true ∧ tailSpace l = q.length := by
  unfold tailSpace
  cases h : spaceSeqs.find? (·.isSuffixOf l) with
  | none => exact .inl ⟨rfl, fun q hq => by simpa using List.find?_eq_none.1 h q hq⟩
  | some q => exact .inr ⟨q, List.mem_of_find?_eq_some h, by simpa using List.find?_some h, rfl⟩

theorem head_sp (l : List UInt8) : headSpace l = spLen l := by
  rcases head_cases l with ⟨h1, h2⟩ | ⟨q, hq, hp, h1⟩
  · rw [h1]
    apply Decidable.byContradiction
    intro hne
    have hm := sp_mem l (fun e => hne e.symm)
    exact h2 _ hm (List.isPrefixOf_iff_prefix.2 (List.take_prefix _ _))
  · obtain ⟨t, rfl⟩ := List.isPrefixOf_iff_prefix.1 hp
    rw [h1, sp_seq q hq t]

theorem head_seq {q : List UInt8} (hq : q ∈ spaceSeqs) (t : List UInt8) : headSpace (q ++ t) = q.length := by rw [head_sp, sp_seq q hq t]
theorem head_take {l : List UInt8} (h : headSpace l ≠ 0) : l.take (headSpace l) ∈ spaceSeqs ∧ headSpace l ≤ l.length := by
  rcases head_cases l with ⟨h1, _⟩ | ⟨q, hq, hp, h1⟩
  · exact absurd h1 h
  · obtain ⟨t, rfl⟩ := List.isPrefixOf_iff_prefix.1 hp
    rw [h1]
    refine ⟨by rw [List.take_left]; exact hq, by simp⟩
theorem tail_seq {q : List UInt8} (hq : q ∈ spaceSeqs) (t : List UInt8) : tailSpace (t ++ q) = q.length := by
  have hl := (seq_len q hq).1
  have hne : t ++ q ≠ [] := fun e => by have := congrArg List.length e; rw [List.length_append, List.length_nil] at this; omega
  obtain ⟨h1, h2⟩ := seq_decodes_last q hq t
  rw [tailSpace_eq _ hne, if_pos h1, h2]
theorem tail_drop {l : List UInt8} (h : tailSpace l ≠ 0) : l.drop (l.length - tailSpace l) ∈ spaceSeqs ∧ 1 ≤ tailSpace l ∧ tailSpace l ≤ 3 ∧ tailSpace l ≤ l.length := by
  rcases tail_cases l with ⟨h1, _⟩ | ⟨q, hq, hp, h1⟩
  · exact absurd h1 h
  · obtain ⟨t, rfl⟩ := List.isSuffixOf_iff_suffix.1 hp
    rw [h1]
    have := seq_len q hq
    refine ⟨by rw [List.length_append, Nat.add_sub_cancel, List.drop_left]; exact hq, this.1, this.2, by simp⟩

def SL (l : List UInt8) : List UInt8 := stripL l.length l
def SR (l : List UInt8) : List UInt8 := stripR l.length l

theorem stripL_fuel : ∀ (f g : Nat) (l : List UInt8), l.length ≤ f → l.length ≤ g → stripL f l = stripL g l := by
  intro f
  induction f with
  | zero =>
    intro g l h1 h2
    have : l = [] := List.eq_nil_of_length_eq_zero (by omega)
    subst this
    cases g with
    | zero => rfl
    | succ g => rw [stripL, stripL, if_pos headSpace_nil]
  | succ f ih =>
    intro g l h1 h2
    rw [stripL]
    cases g with
    | zero =>
      have : l = [] := List.eq_nil_of_length_eq_zero (by omega)
      subst this
      rw [if_pos headSpace_nil, stripL]
    | succ g =>
      rw [stripL]
      split
      · rfl
      · rename_i h
        have := head_take h
        refine ih g _ ?_ ?_ <;> rw [List.length_drop] <;> omega
theorem stripR_fuel : ∀ (f g : Nat) (l : List UInt8), l.length ≤ f → l.length ≤ g → stripR f l = stripR g l := by
  intro f
  induction f with
  | zero =>
    intro g l h1 h2
    have : l = [] := List.eq_nil_of_length_eq_zero (by omega)
    subst this
    cases g with
    | zero => rfl
    | succ g => rw [stripR, stripR, if_pos tailSpace_nil]
  | succ f ih =>
    intro g l h1 h2
    rw [stripR]
    cases g with
    | zero =>
      have : l = [] := List.eq_nil_of_length_eq_zero (by omega)
      subst this
      rw [if_pos tailSpace_nil, stripR]
    | succ g =>
      rw [stripR]
      split
      · rfl
      · rename_i h
        have := tail_drop h
        refine ih g _ ?_ ?_ <;> rw [List.length_take] <;> omega

theorem SL_stop {l : List UInt8} (h : headSpace l = 0) : SL l = l := by
  unfold SL
  cases hl : l.length with
  | zero => rfl
  | succ f => rw [stripL, if_pos h]
theorem SL_step {l : List UInt8} (h : headSpace l ≠ 0) : SL l = SL (l.drop (headSpace l)) := by
  have h2 := head_take h
  unfold SL
  cases hl : l.length with
  | zero => omega
  | succ f =>
    rw [stripL, if_neg h]
    refine stripL_fuel _ _ _ ?_ (Nat.le_refl _)
    rw [List.length_drop]; omega
theorem SR_stop {l : List UInt8} (h : tailSpace l = 0) : SR l = l := by
  unfold SR
  cases hl : l.length with
  | zero => rfl
  | succ f => rw [stripR, if_pos h]
theorem SR_step {l : List UInt8} (h : tailSpace l ≠ 0) : SR l = SR (l.take (l.length - tailSpace l)) := by
  have h2 := tail_drop h
  unfold SR
  cases hl : l.length with
  | zero => omega
  | succ f =>
    rw [stripR, if_neg h, hl]
    refine stripR_fuel _ _ _ ?_ (Nat.le_refl _)
    rw [List.length_take]; omega

theorem stripL_len : ∀ (f : Nat) (l : List UInt8), (stripL f l).length ≤ l.length := by
  intro f
  induction f with
  | zero => intro l; exact Nat.le_refl _
  | succ f ih =>
    intro l
    rw [stripL]
    split
    · exact Nat.le_refl _
    · have := ih (l.drop (headSpace l))
      rw [List.length_drop] at this
      omega
theorem trim_SR (l : List UInt8) : trimSpaceD l = SR (SL l) := by
  rw [← trimSpaceU_eq]
  unfold trimSpaceU SR
  exact stripR_fuel _ _ _ (stripL_len _ _) (Nat.le_refl _)

theorem head_zero_ne {c : UInt8} {t : List UInt8} (h : headSpace (c :: t) = 0) : c ≠ 32 := by
  rintro rfl
  have := head_seq (q := [32]) (by decide) t
  rw [List.singleton_append] at this
  rw [this] at h
  exact absurd h (by decide)
theorem tail_zero_ne {c : UInt8} {t : List UInt8} (h : tailSpace (t ++ [c]) = 0) : c ≠ 32 := by
  rintro rfl
  have := tail_seq (q := [32]) (by decide) t
  rw [this] at h
  exact absurd h (by decide)

theorem tail_go {M R : List UInt8} (m : Nat) (hm : M.length = m) :
    tailSpace M = if 1 ≤ m ∧ asp (M.getD (m - 1) 0) = true then 1 else if 2 ≤ m ∧ headSpace (M.drop (m - 2) ++ R) = 2 then 2 else if 3 ≤ m ∧ headSpace (M.drop (m - 3) ++ R) = 3 then 3 else 0 := by
  have key : ∀ k, 1 ≤ k → k ≤ m → M.drop (m - k) ∈ spaceSeqs → tailSpace M = k := fun k h1 h2 h => by
    have := tail_seq h (M.take (m - k))
    rw [List.take_append_drop, List.length_drop] at this
    omega
  have h1 : 1 ≤ m → M.drop (m - 1) = [M.getD (m - 1) 0] := fun h => by
    rw [List.drop_eq_getElem_cons (by omega), List.drop_eq_nil_of_le (by omega)]
    rw [List.getD, List.getElem?_eq_getElem (by omega)]; rfl
  have hk : ∀ k, 1 ≤ k → k ≤ m → (headSpace (M.drop (m - k) ++ R) = k ↔ M.drop (m - k) ∈ spaceSeqs) := fun k g1 g2 => by
    have hl : (M.drop (m - k)).length = k := by rw [List.length_drop]; omega
    constructor
    · intro h
      have := (head_take (l := M.drop (m - k) ++ R) (by omega)).1
      rw [h] at this
      rw [List.take_append_of_le_length (by omega), List.take_of_length_le (by omega)] at this
      exact this
    · intro h
      rw [head_seq h R, hl]
  split
  · rename_i h
    exact key 1 (Nat.le_refl _) h.1 (by rw [h1 h.1]; exact one_mem h.2)
  · rename_i n1
    split
    · rename_i h
      exact key 2 (by omega) h.1 ((hk 2 (by omega) h.1).1 h.2)
    · rename_i n2
      split
      · rename_i h
        exact key 3 (by omega) h.1 ((hk 3 (by omega) h.1).1 h.2)
      · rename_i n3
        apply Decidable.byContradiction
        intro hne
        obtain ⟨hd, g1, g2, g3⟩ := tail_drop hne
        rw [hm] at hd g3
        have hc : tailSpace M = 1 ∨ tailSpace M = 2 ∨ tailSpace M = 3 := by omega
        rcases hc with e | e | e
        · rw [e] at hd g3
          rw [h1 g3] at hd
          refine n1 ⟨g3, ?_⟩
          have := sp_seq _ hd []
          rw [List.append_nil, sp1] at this
          split at this
          · assumption
          · exact absurd this (by simp)
        · rw [e] at hd g3
          exact n2 ⟨g3, (hk 2 (by omega) g3).2 hd⟩
        · rw [e] at hd g3
          exact n3 ⟨g3, (hk 3 (by omega) g3).2 hd⟩
end Go.Proofs.Qxb6603202aDoor
