import Derived.Test.Qxb6602721aDoorSig
import Derived.Shelf.Strings.SlTrimAscii
import Derived.Lib.IndexMore
namespace Go.Proofs.Qxb6602721aDoor
open Go

theorem st_eq (f : List UInt8) : Lib.trimPrefix f [45] = f.drop (st f) ∧ Lib.hasPrefix f [45] = neg f := by
  have h : Lib.hasPrefix f [45] = neg f := by
    unfold Lib.hasPrefix neg
    cases f with
    | nil => simp
    | cons c r =>
      simp only [List.isPrefixOf, Bool.and_true, List.head?_cons, Option.some.injEq]
      by_cases hc : c = 45
      · simp [hc]
      · simp [hc]
        exact fun e => hc e.symm
  refine ⟨?_, h⟩
  unfold Lib.trimPrefix st
  rw [h]
  split <;> simp

theorem index_dot : ∀ l : List UInt8, (46 ∉ l ∧ Lib.index l [46] = -1) ∨ ∃ a b, l = a ++ 46 :: b ∧ 46 ∉ a ∧ Lib.index l [46] = (a.length : Int)
  | [] => .inl ⟨by simp, rfl⟩
  | c :: r => by
    by_cases hc : c = 46
    · subst hc
      exact .inr ⟨[], r, rfl, by simp, by simp [Lib.index]⟩
    · have hp : ([46] : List UInt8).isPrefixOf (c :: r) = false := by
        simp only [List.isPrefixOf, Bool.and_true]
        simpa using fun e => hc e.symm
      have e : Lib.index (c :: r) [46] = if Lib.index r [46] == -1 then -1 else Lib.index r [46] + 1 := by
        rw [Lib.index, if_neg (by rw [hp]; simp)]
      rcases index_dot r with ⟨h1, h2⟩ | ⟨a, b, h1, h2, h3⟩
      · left
        refine ⟨?_, by rw [e, h2]; rfl⟩
        intro hm
        rcases List.mem_cons.1 hm with h | h
        · exact hc h.symm
        · exact h1 h
      · right
        refine ⟨c :: a, b, by rw [h1]; rfl, ?_, ?_⟩
        · intro hm
          rcases List.mem_cons.1 hm with h | h
          · exact hc h.symm
          · exact h2 h
        · rw [e, h3, if_neg (by simp only [beq_iff_eq]; omega)]
          simp

theorem cut_dot (l : List UInt8) : (46 ∉ l ∧ Lib.cut l [46] = (l, [], false)) ∨ ∃ a b, l = a ++ 46 :: b ∧ 46 ∉ a ∧ Lib.cut l [46] = (a, b, true) := by
  rcases index_dot l with ⟨h1, h2⟩ | ⟨a, b, h1, h2, h3⟩
  · exact .inl ⟨h1, by rw [Lib.cut, h2, if_neg (by omega)]⟩
  · refine .inr ⟨a, b, h1, h2, ?_⟩
    rw [Lib.cut, h3, if_pos (by omega)]
    simp only [Int.toNat_natCast, List.length_cons, List.length_nil, Nat.zero_add]
    rw [h1, List.take_left]
    have : (a ++ 46 :: b).drop (a.length + 1) = b := by rw [← List.drop_drop, List.drop_left]; rfl
    rw [this]

theorem isD_dot : isD 46 = false := by decide

theorem run_app_all {a : List UInt8} (h : a.all isD = true) (b : List UInt8) : run (a ++ 46 :: b) = a.length := by
  unfold run
  rw [List.takeWhile_append_of_pos (by simpa using h), List.takeWhile_cons_of_neg (by rw [isD_dot]; simp)]
  simp

theorem run_app_not : ∀ {a : List UInt8}, a.all isD = false → ∀ b : List UInt8, run (a ++ b) < a.length
  | [], h, _ => by simp at h
  | c :: r, h, b => by
    unfold run
    rw [List.cons_append, List.takeWhile_cons]
    by_cases hc : isD c = true
    · rw [if_pos hc]
      have : r.all isD = false := by simpa [hc] using h
      have := run_app_not this b
      unfold run at this
      simp only [List.length_cons]; omega
    · rw [if_neg hc]; simp

theorem shape_none {f l : List UInt8} (hl : l = f.drop (st f)) (hs : st f ≤ f.length) (h46 : 46 ∉ l) :
    (l ≠ [] ∧ l.all isD = true ∧ shape f = (true, neg f, st f, l.length, false, 0)) ∨ ((l = [] ∨ l.all isD = false) ∧ (shape f).1 = false) := by
  have hil : il f = run l := by rw [il, ← hl]
  have hlen : l.length = f.length - st f := by rw [hl, List.length_drop]
  by_cases hne : l = []
  · right
    refine ⟨.inl hne, ?_⟩
    unfold shape
    rw [if_pos (by rw [hil, hne]; rfl)]
  · have hpos : 0 < l.length := List.length_pos_iff.2 hne
    cases ha : l.all isD
    · right
      refine ⟨.inr rfl, ?_⟩
      have hr : run l < l.length := by
        have h1 := run_le l
        have h2 : run l ≠ l.length := fun e => by rw [(run_all l).1 e] at ha; cases ha
        omega
      unfold shape
      rw [hil]
      by_cases h0 : run l = 0
      · rw [if_pos h0]
      · rw [if_neg h0, if_neg (by omega), if_pos]
        intro e
        have e2 : l.getD (run l) 0 = 46 := by rw [hl, getD_drop8, ← hl]; exact e
        apply h46
        have : l[run l] = 46 := by simpa [List.getD, hr] using e2
        rw [← this]
        exact List.getElem_mem hr
    · left
      have hr : run l = l.length := (run_all l).2 ha
      refine ⟨hne, rfl, ?_⟩
      unfold shape
      rw [hil, hr, if_neg (by omega), if_pos (by omega)]

theorem shape_some {f l a b : List UInt8} (hl : l = f.drop (st f)) (hs : st f ≤ f.length) (hab : l = a ++ 46 :: b) (h46 : 46 ∉ a) :
    (a ≠ [] ∧ a.all isD = true ∧ b.all isD = true ∧ shape f = (true, neg f, st f, a.length, true, b.length)) ∨ ((a = [] ∨ a.all isD = false ∨ b.all isD = false) ∧ (shape f).1 = false) := by
  have hil : il f = run l := by rw [il, ← hl]
  have hlen : l.length = f.length - st f := by rw [hl, List.length_drop]
  have hlen2 : l.length = a.length + b.length + 1 := by rw [hab]; simp; omega
  have hat : ∀ j, f.getD (st f + j) 0 = l.getD j 0 := fun j => by rw [hl, getD_drop8]
  by_cases hne : a = []
  · right
    refine ⟨.inl hne, ?_⟩
    unfold shape
    have : run l = 0 := by rw [hab, hne]; exact run_app_all (a := []) rfl b
    rw [if_pos (by rw [hil, this])]
  · have hpos : 0 < a.length := List.length_pos_iff.2 hne
    cases ha : a.all isD
    · right
      refine ⟨.inr (.inl rfl), ?_⟩
      have hr : run l < a.length := by rw [hab]; exact run_app_not ha _
      unfold shape
      rw [hil]
      by_cases h0 : run l = 0
      · rw [if_pos h0]
      · rw [if_neg h0, if_neg (by omega), if_pos]
        intro e
        rw [hat] at e
        apply h46
        obtain ⟨k, hk⟩ : ∃ k, k = run l := ⟨_, rfl⟩
        rw [← hk] at e hr
        have e2 : a[k] = 46 := by
          rw [hab] at e
          simpa [List.getD, List.getElem?_append_left hr, hr] using e
        rw [← e2]
        exact List.getElem_mem hr
    · have hr : run l = a.length := by rw [hab]; exact run_app_all ha b
      have hd : f.drop (st f + a.length + 1) = b := by
        have : f.drop (st f + (a.length + 1)) = l.drop (a.length + 1) := by rw [hl, List.drop_drop]
        rw [Nat.add_assoc, this, hab, ← List.drop_drop, List.drop_left]; rfl
      have hc : f.getD (st f + a.length) 0 = 46 := by
        rw [hat, hab]; simp [List.getD]
      cases hb : b.all isD
      · right
        refine ⟨.inr (.inr rfl), ?_⟩
        unfold shape
        rw [hil, hr, if_neg (by omega), if_neg (by omega), if_neg (by simpa using hc), hd, if_neg (by rw [hb]; simp)]
      · left
        refine ⟨hne, rfl, rfl, ?_⟩
        unfold shape
        rw [hil, hr, if_neg (by omega), if_neg (by omega), if_neg (by simpa using hc), hd, if_pos hb]
        congr 5
        omega
end Go.Proofs.Qxb6602721aDoor
