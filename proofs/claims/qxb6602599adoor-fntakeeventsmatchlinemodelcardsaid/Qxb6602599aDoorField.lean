import Derived.Test.Qxb6602599aDoorIs
namespace Go.Proofs.Qxb6602599aDoor
open Go.RowKit
open Go

namespace M
theorem fn_le : ∀ l : List Int, (fieldName l).length ≤ l.length
  | [] => Nat.le_refl _
  | c :: r => by
    have := fn_le r
    unfold fieldName at this ⊢
    rw [List.takeWhile_cons]
    split <;> simp only [List.length_cons, List.length_nil] <;> omega
theorem fn_ne : ∀ (l : List Int) (j : Nat), j < (fieldName l).length → l.getD j 0 ≠ 58
  | [], j, h => by simp [fieldName] at h
  | c :: r, j, h => by
    unfold fieldName at h
    rw [List.takeWhile_cons] at h
    split at h
    · rename_i hc
      cases j with
      | zero => simpa using hc
      | succ i => simpa using fn_ne r i (by simpa [fieldName] using h)
    · simp at h
theorem fn_at : ∀ l : List Int, (fieldName l).length < l.length → l.getD (fieldName l).length 0 = 58
  | [], h => by simp at h
  | c :: r, h => by
    unfold fieldName at h ⊢
    rw [List.takeWhile_cons] at h ⊢
    split
    · rename_i hc
      rw [if_pos hc] at h
      have := fn_at r (by simpa [fieldName] using h)
      unfold fieldName at this
      simpa using this
    · rename_i hc
      simpa using hc
theorem fr_drop : ∀ l : List Int, fieldRest l = l.drop ((fieldName l).length + 1)
  | [] => by simp [fieldRest]
  | c :: r => by
    have := fr_drop r
    unfold fieldRest fieldName at this ⊢
    rw [List.takeWhile_cons, List.dropWhile_cons]
    split
    · rw [this]; rfl
    · rfl
theorem fn_take (l : List Int) : fieldName l = l.take (fieldName l).length := by
  have h := List.takeWhile_append_dropWhile (p := fun c : Int => !(c == 58)) (l := l)
  conv => rhs; arg 2; rw [← h]
  unfold fieldName
  rw [List.take_left]
end M

theorem M.fv_end {l : List Int} {i : Nat} (h : i = (M.fieldName l).length) (hl : l.length ≤ i + 1) : M.fieldValue l = [] := by
  rw [M.fieldValue, M.fr_drop, ← h, List.drop_eq_nil_of_le hl]; rfl
theorem M.fv_space {l : List Int} {i : Nat} (h : i = (M.fieldName l).length) (hl : i + 1 < l.length) (h32 : l.getD (i + 1) 0 = 32) : M.fieldValue l = l.drop (i + 2) := by
  rw [M.fieldValue, M.fr_drop, ← h, drop_cons hl, h32]; rfl
theorem M.fv_plain {l : List Int} {i : Nat} (h : i = (M.fieldName l).length) (hl : i + 1 < l.length) (h32 : l.getD (i + 1) 0 ≠ 32) : M.fieldValue l = l.drop (i + 1) := by
  rw [M.fieldValue, M.fr_drop, ← h, drop_cons hl, M.unSpace, if_neg (by simpa using h32)]

def FieldPost (w : World) (pb po : Nat) (l : List Int) (k : Nat) (e : Ending) (w' : World) : Prop :=
  ∃ c1 o nv cv, e = .returned (.tuple #[.slice (some ⟨pb, po, none⟩) k c1, .slice (some ⟨pb, o, none⟩) nv cv]) ∧ nv = (M.fieldValue l).length ∧ (∀ i, i < nv → w.cell? ⟨pb, o + i, none⟩ = some (.int .u8 ((M.fieldValue l).getD i 0))) ∧ Fr (fun _ => False) w w'
theorem FieldPost.mk {w : World} {pb po : Nat} {l : List Int} {k : Nat} {w' : World} {c1 o nv cv : Nat} (h1 : nv = (M.fieldValue l).length) (h2 : ∀ i, i < nv → w.cell? ⟨pb, o + i, none⟩ = some (.int .u8 ((M.fieldValue l).getD i 0))) (h3 : Fr (fun _ => False) w w') :
    FieldPost w pb po l k (.returned (.tuple #[.slice (some ⟨pb, po, none⟩) k c1, .slice (some ⟨pb, o, none⟩) nv cv])) w' := ⟨c1, o, nv, cv, rfl, h1, h2, h3⟩

set_option maxHeartbeats 1600000 in
theorem field_any (pb po n c : Nat) (l : List Int) (w : World) (hl : l.length = n) (h1 : 1 ≤ n) (hn : n ≤ 1048576) (hcap : n ≤ c) (hc : ∀ i, i < n → w.cell? ⟨pb, po + i, none⟩ = some (.int .u8 (l.getD i 0))) :
    Calls Tryd.prog 16 #[.slice (some ⟨pb, po, none⟩) n c] w fun e w' => FieldPost w pb po l (M.fieldName l).length e w' := by
  obtain ⟨k, hk⟩ : ∃ k, k = (M.fieldName l).length := ⟨_, rfl⟩
  rw [← hk]
  have hkn : k ≤ n := by rw [hk, ← hl]; exact M.fn_le l
  have HX : Hid _ := And.intro hl (And.intro hc hk)
  clear hl hc hk
  go_enter Tryd.func16, Tryd.ntmps16
  go_wp2
  go_loopg [4] k (fun g s4 wx => ∃ i : Nat, i + g = k ∧ s4 = .int .i64 i ∧ w = wx)
  case atStart => exact ⟨0, by omega, rfl, rfl⟩
  case round =>
    obtain ⟨i, hig, rfl, rfl⟩ := hrel
    cases gk with
    | succ g =>
      have hin : (i : Int) < (n : Int) := by omega
      have e1 := HX.out.2.1 i (by omega)
      have hne := M.fn_ne l i (by rw [← HX.out.2.2]; omega)
      obtain ⟨X, hX⟩ : ∃ X, X = l.getD i 0 := ⟨_, rfl⟩
      rw [← hX] at e1 hne
      have hb : (X == 58) = false := by simpa using hne
      clear hX hne
      go_wp2
      go_roundg g
      case measure => omega
      case rel => exact ⟨i + 1, by omega, by first | rfl | simp, rfl⟩
    | zero =>
      obtain rfl : i = k := by omega
      have hat := M.fn_at l
      rw [← HX.out.2.2] at hat
      have HAT : Hid (i < n → l.getD i 0 = 58) := fun h => hat (by rw [HX.out.1]; exact h)
      clear hat
      by_cases hkn' : i < n
      · have hin : (i : Int) < (n : Int) := by omega
        have e1 := HX.out.2.1 i (by omega)
        rw [HAT.out hkn'] at e1
        have hneq : ((i : Int) == (n : Int)) = false := by simp; omega
        by_cases hb : i + 1 < n
        · have e2 := HX.out.2.1 (i + 1) hb
          have hco : ¬ c = i + 1 := by omega
          by_cases h32 : l.getD (i + 1) 0 = 32
          · rw [h32] at e2
            have HV : Hid _ := M.fv_space HX.out.2.2 (by rw [HX.out.1]; exact hb) h32
            have HVL : Hid ((M.fieldValue l).length = n - (i + 1) - 1) := by
              show (M.fieldValue l).length = n - (i + 1) - 1
              rw [HV.out, List.length_drop, HX.out.1]; omega
            clear h32
            go_wp2
            all_goals
              go_ret2
              refine FieldPost.mk HVL.out.symm (fun j hj => ?_) (Fr.refl _ _)
              first
                | (have := HX.out.2.1 (i + 2 + j) (by omega)
                   rw [show po + (i + 1) + 1 + j = po + (i + 2 + j) from by omega, this, HV.out]; simp [List.getD])
                | omega
          · have HV : Hid _ := M.fv_plain HX.out.2.2 (by rw [HX.out.1]; exact hb) h32
            have HVL : Hid ((M.fieldValue l).length = n - (i + 1)) := by
              show (M.fieldValue l).length = n - (i + 1)
              rw [HV.out, List.length_drop, HX.out.1]
            obtain ⟨Y, hY⟩ : ∃ Y, Y = l.getD (i + 1) 0 := ⟨_, rfl⟩
            rw [← hY] at e2 h32
            have hb32 : (Y == 32) = false := by simpa using h32
            clear h32 hY
            go_wp2
            go_ret2
            refine FieldPost.mk HVL.out.symm (fun j hj => ?_) (Fr.refl _ _)
            have := HX.out.2.1 (i + 1 + j) (by omega)
            rw [show po + (i + 1) + j = po + (i + 1 + j) from by omega, this, HV.out]; simp [List.getD]
        · obtain rfl : n = i + 1 := by omega
          have HV : Hid (M.fieldValue l = []) := M.fv_end HX.out.2.2 (by rw [HX.out.1]; omega)
          go_wp2
          all_goals
            go_ret2
            exact FieldPost.mk (by rw [HV.out]; first | rfl | simp) (fun j hj => by omega) (Fr.refl _ _)
      · obtain rfl : i = n := by omega
        have HV : Hid (M.fieldValue l = []) := M.fv_end HX.out.2.2 (by rw [HX.out.1]; omega)
        obtain ⟨o, ho⟩ : ∃ o, (if c = i then some (⟨pb, po, none⟩ : Addr) else some ⟨pb, po + i, none⟩) = some ⟨pb, o, none⟩ := by
          split
          · exact ⟨_, rfl⟩
          · exact ⟨_, rfl⟩
        go_wp2
        go_quiet (fail)
        go_wp2
        all_goals
          go_ret2
          exact FieldPost.mk (by rw [HV.out]; first | rfl | simp) (fun j hj => by omega) (Fr.drewN _ _)
end Go.Proofs.Qxb6602599aDoor
