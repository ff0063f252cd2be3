import Derived.Test.Qxb6602721aDoorModelw
namespace Go.Proofs.Qxb6602721aDoor
open Go

theorem dz_split (l : List UInt8) : ∃ j, l = List.replicate j 48 ++ dz l ∧ (dz l).head? ≠ some 48 := by
  induction l with
  | nil => exact ⟨0, rfl, by simp [dz, Lib.trimLeftB]⟩
  | cons c r ih =>
    by_cases hc : c = 48
    · obtain ⟨j, h1, h2⟩ := ih
      have e : dz (c :: r) = dz r := by
        unfold dz Lib.trimLeftB
        rw [List.dropWhile_cons, if_pos (by simp [hc])]
      refine ⟨j + 1, ?_, by rw [e]; exact h2⟩
      rw [e, hc, List.replicate_succ, List.cons_append, ← h1]
    · have e : dz (c :: r) = c :: r := by
        unfold dz Lib.trimLeftB
        rw [List.dropWhile_cons, if_neg (by simp [hc])]
      exact ⟨0, by rw [e]; rfl, by rw [e]; simpa using hc⟩

theorem dz_rep (j : Nat) (l : List UInt8) : dz (List.replicate j 48 ++ l) = dz l := by
  unfold dz Lib.trimLeftB
  rw [List.dropWhile_append_of_pos (fun x hx => by rw [List.eq_of_mem_replicate hx]; rfl)]
theorem dz_head {l : List UInt8} (h : l.head? ≠ some 48) : dz l = l := by
  unfold dz Lib.trimLeftB
  cases l with
  | nil => rfl
  | cons x t =>
    have : (x == (48 : UInt8)) = false := by simpa using h
    rw [List.dropWhile_cons_of_neg (by simp [this])]

theorem val_core (A : List UInt8) (P : Nat) (h : P < A.length) :
    Lib.trimLeftB (A.take (A.length - P - 1)) 48 ++ (A.drop (A.length - P - 1)).take 1 = (padM (dz A) P).take ((padM (dz A) P).length - P) ∧ A.drop (A.length - P) = (padM (dz A) P).drop ((padM (dz A) P).length - P) := by
  obtain ⟨j, h1, h2⟩ := dz_split A
  have hl : A.length = j + (dz A).length := by
    have := congrArg List.length h1
    rwa [List.length_append, List.length_replicate] at this
  obtain ⟨g, hg⟩ : ∃ g, g = dz A := ⟨_, rfl⟩
  rw [← hg] at h1 h2 hl ⊢
  show dz (A.take (A.length - P - 1)) ++ _ = _ ∧ _
  unfold padM
  split
  · rename_i hle
    have e1 : A.drop (A.length - P - 1) = List.replicate (P + 1 - g.length) 48 ++ g := by
      rw [h1, List.drop_append, List.drop_replicate, List.length_replicate]
      have e : (List.replicate j (48 : UInt8) ++ g).length - P - 1 - j = 0 := by simp; omega
      rw [e, List.drop_zero]
      congr 2
      simp; omega
    have e2 : dz (A.take (A.length - P - 1)) = [] := by
      have : A.take (A.length - P - 1) = List.replicate (A.length - P - 1) 48 := by
        conv => lhs; arg 2; rw [h1]
        rw [List.take_append_of_le_length (by rw [List.length_replicate]; omega), List.take_replicate]
        congr 1
        omega
      rw [this]
      have := dz_rep (A.length - P - 1) []
      rw [List.append_nil] at this
      rw [this]; rfl
    have e3 : (List.replicate (P + 1 - g.length) (48 : UInt8) ++ g).length - P = 1 := by simp; omega
    rw [e2, List.nil_append, e1, e3]
    refine ⟨rfl, ?_⟩
    rw [← e1, List.drop_drop]
    congr 1
    omega
  · rename_i hle
    have e1 : A.take (A.length - P - 1) = List.replicate j 48 ++ g.take (g.length - P - 1) := by
      conv => lhs; arg 2; rw [h1]
      rw [List.take_append, List.take_replicate, List.length_replicate]
      congr 2
      · omega
      · omega
    have e2 : dz (A.take (A.length - P - 1)) = g.take (g.length - P - 1) := by
      rw [e1, dz_rep]
      apply dz_head
      cases hgc : g with
      | nil => rw [hgc] at hle; simp at hle
      | cons x t =>
        rw [hgc] at h2
        cases hm : (x :: t).length - P - 1 with
        | zero => simp
        | succ m => simpa using h2
    have e3 : ∀ m, A.drop (j + m) = g.drop m := fun m => by
      conv => lhs; arg 2; rw [h1]
      rw [← List.drop_drop, List.drop_left' (by simp)]
    have e4 : A.drop (A.length - P - 1) = g.drop (g.length - P - 1) := by
      rw [← e3]
      congr 1
      omega
    rw [e2, e4]
    refine ⟨?_, ?_⟩
    · have : g.length - P = g.length - P - 1 + 1 := by omega
      rw [this, List.take_add]
      simp only [Nat.add_sub_cancel]
    · rw [← e3]
      congr 1
      omega

theorem val_eq (ng : Bool) (A : List UInt8) (P : Nat) (h : P < A.length) : valD ng A (A.length - P) = valM ng (padM (dz A) P) P := by
  obtain ⟨h1, h2⟩ := val_core A P h
  have e1 : val1 ng A (A.length - P) = signOf ng ++ (padM (dz A) P).take ((padM (dz A) P).length - P) := by
    unfold val1
    rw [List.append_assoc, h1]
  unfold valD valM
  by_cases hp : 0 < P
  · rw [if_pos hp, if_pos (by omega), e1, h2]
    simp
  · rw [if_neg hp, if_neg (by omega), e1]

theorem pad_eq (ng : Bool) (WH PL : List UInt8) (k : Int) (P : Nat) (hP : (PL.length : Int) + k = P) : valD ng (padD WH PL k) (atD WH k) = valM ng (padM (dz (WH ++ PL)) P) P := by
  have hd : dz (padD WH PL k) = dz (WH ++ PL) := by
    unfold padD
    split
    · exact dz_rep _ _
    · rfl
  have hl : P < (padD WH PL k).length ∧ atD WH k = (padD WH PL k).length - P := by
    unfold padD atD
    split
    · rw [List.length_append, List.length_replicate, List.length_append]; omega
    · rw [List.length_append]; omega
  rw [hl.2, val_eq ng _ P hl.1, hd]

theorem fmt_eq (WH PL : List UInt8) (PT : Bool) : fmtD WH PL PT = fmtM (if 1 < WH.length ∧ WH.getD 0 0 = 48 then WH.length else 1) PL.length PT := by
  have h : fmt1 WH = List.replicate (if 1 < WH.length ∧ WH.getD 0 0 = 48 then WH.length else 1) 48 := by
    unfold fmt1 leadB
    by_cases hc : 1 < WH.length ∧ WH.getD 0 0 = 48
    · rw [if_pos hc, if_pos (decide_eq_true hc)]
    · rw [if_neg hc, if_neg (by rw [decide_eq_false hc]; decide)]
      rfl
  unfold fmtD fmtM
  rw [h]
  split
  · simp
  · rfl
end Go.Proofs.Qxb6602721aDoor
