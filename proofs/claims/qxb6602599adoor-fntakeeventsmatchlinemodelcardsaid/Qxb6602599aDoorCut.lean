import Derived.Test.Qxb6602599aDoorBom
import Derived.Test.Qxb6602599aDoorShelf
import Derived.Lib.SlBytesConst
namespace Go.Proofs.Qxb6602599aDoor
open Go.RowKit
open Go

theorem byte_eq {x c : Int} (hx : 0 ≤ x ∧ x < 256) (hc : 0 ≤ c ∧ c < 256) : (UInt8.ofNat x.toNat == UInt8.ofNat c.toNat) = (x == c) := by
  rw [Bool.eq_iff_iff]
  simp only [beq_iff_eq]
  constructor
  · intro h
    have h2 := congrArg UInt8.toNat h
    simp only [UInt8.toNat_ofNat'] at h2
    have e1 : x.toNat % 2 ^ 8 = x.toNat := Nat.mod_eq_of_lt (by omega)
    have e2 : c.toNat % 2 ^ 8 = c.toNat := Nat.mod_eq_of_lt (by omega)
    omega
  · intro h; rw [h]

theorem idx_colon : ∀ {xs : List Int}, IsB xs →
    (∃ i : Nat, Lib.indexByte (Lib.bytesOf xs) 58 = i ∧ i < xs.length ∧ M.fieldName xs = xs.take i ∧ M.fieldRest xs = xs.drop (i + 1)) ∨
    (Lib.indexByte (Lib.bytesOf xs) 58 = -1 ∧ M.fieldName xs = xs ∧ M.fieldRest xs = [])
  | [], _ => .inr ⟨rfl, rfl, rfl⟩
  | x :: r, h => by
    have hx : 0 ≤ x ∧ x < 256 := h x (by simp)
    have hr : IsB r := fun y hy => h y (List.mem_cons_of_mem _ hy)
    have e : (UInt8.ofNat x.toNat == (58 : UInt8)) = (x == 58) := byte_eq (c := 58) hx (by omega)
    by_cases h58 : x = 58
    · left
      refine ⟨0, ?_, by simp, ?_, ?_⟩
      · simp [Lib.bytesOf, Lib.indexByte, h58]
      · simp [M.fieldName, h58]
      · simp [M.fieldRest, h58]
    · have e' : (x == (58 : Int)) = false := by simpa using h58
      rw [e'] at e
      have hb : Lib.bytesOf (x :: r) = UInt8.ofNat x.toNat :: Lib.bytesOf r := rfl
      have hix : Lib.indexByte (Lib.bytesOf (x :: r)) 58 = if Lib.indexByte (Lib.bytesOf r) 58 == -1 then -1 else Lib.indexByte (Lib.bytesOf r) 58 + 1 := by
        rw [hb, Lib.indexByte, e]; rfl
      rcases idx_colon hr with ⟨i, h1, h2, h3, h4⟩ | ⟨h1, h2, h3⟩
      · left
        refine ⟨i + 1, ?_, by simp; omega, ?_, ?_⟩
        · rw [hix, h1]
          have : ((i : Int) == -1) = false := by simp
          rw [this]; simp
        · simp [M.fieldName, e'] at h3 ⊢; exact h3
        · simp [M.fieldRest, e'] at h4 ⊢; exact h4
      · right
        refine ⟨?_, ?_, ?_⟩
        · rw [hix, h1]; rfl
        · simp [M.fieldName, e'] at h2 ⊢; exact h2
        · simp [M.fieldRest, e'] at h3 ⊢; exact h3

theorem BIn.bytesIn {w : World} {p : Option Addr} {n : Nat} {xs : List Int} (h : BIn w p n xs) : Lib.BytesIn w p n xs := h

theorem BIn.drop {w : World} {b o n c j : Nat} {xs : List Int} (h : BIn w (some ⟨b, o, none⟩) n xs) (hnc : n ≤ c) : BIn w (if c = j then some ⟨b, o, none⟩ else some ⟨b, o + j, none⟩) (n - j) (xs.drop j) := by
  intro h0
  obtain ⟨b', o', e, hc⟩ := h (by omega)
  cases e
  rw [if_neg (by omega)]
  refine ⟨b, o + j, rfl, fun i hi => ?_⟩
  rw [show o + j + i = o + (j + i) from by omega, hc (j + i) (by omega)]
  simp [List.getD]

theorem cut_any (w : World) (p : Option Addr) (n c sb so sc : Nat) (xs : List Int) (hx : xs.length = n) (hnc : n ≤ c) (hn : n ≤ 1048576) (hB : IsB xs) (hp : p = none → c = 0) (hpo : ∀ a, p = some a → ∃ g, a = ⟨g, 0, none⟩) (hin : BIn w p n xs) (hs : w.cell? ⟨sb, so, none⟩ = some (.int .u8 58)) :
    Calls Tryd.prog 32 #[.slice p n c, .slice (some ⟨sb, so, none⟩) 1 sc] w fun e w' => Fr (fun _ => False) w w' ∧ ∃ i p' n' c' f, e = .returned (.tuple #[.slice p i c, .slice p' n' c', .bool f]) ∧ i ≤ n ∧ M.fieldName xs = xs.take i ∧
      (M.fieldRest xs).length = n' ∧ BIn w' p' n' (M.fieldRest xs) ∧ n' ≤ c' ∧ (p' = none → n' = 0 ∧ c' = 0) ∧ (∀ a', p' = some a' → ∃ a o, p = some a ∧ a' = ⟨a.block, o, none⟩) := by
  cases p with
  | none =>
    have hc0 := hp rfl
    subst hc0
    obtain rfl : n = 0 := by omega
    obtain rfl : xs = [] := List.eq_nil_of_length_eq_zero hx
    refine (Tryd.bytes_Cut_of none (some ⟨sb, so, none⟩) 0 0 1 sc (-1) w (by omega) (by omega) (by omega) (by omega) ((Tryd.bytes_Index_one_nil sb so sc 58 w hs).mono fun e w' ⟨h1, h2⟩ => ⟨h1, 0, h2⟩)).mono ?_
    rintro e w' ⟨rfl, q, rfl⟩
    exact ⟨Fr.drewN w q, 0, none, 0, 0, false, rfl, Nat.le_refl _, rfl, rfl, BIn.zero _ _ _, Nat.le_refl _, fun _ => ⟨rfl, rfl⟩, fun a' e => by cases e⟩
  | some a =>
    obtain ⟨g, rfl⟩ := hpo a rfl
    have hcell : ∀ i, i < n → w.cell? ⟨g, 0 + i, none⟩ = some (.int .u8 (xs.getD i 0)) := fun i hi => by
      obtain ⟨b', o', e, hc⟩ := hin (by omega)
      cases e; exact hc i hi
    have hidx := Tryd.bytes_Index_one g 0 n c sb so sc xs 58 w hx hcell hs
    rcases idx_colon hB with ⟨i, h1, h2, h3, h4⟩ | ⟨h1, h2, h3⟩
    · have hidx' : Calls Tryd.prog 40 #[.slice (some ⟨g, 0, none⟩) n c, .slice (some ⟨sb, so, none⟩) 1 sc] w fun e w' => e = .returned (.int .i64 (i : Int)) ∧ ∃ q, w' = w.drewN q :=
        hidx.mono fun e w' ⟨h5, h6⟩ => ⟨by rw [h5, ← h1]; rfl, 0, h6⟩
      refine (Tryd.bytes_Cut_of _ _ n c 1 sc i w hnc (by omega) (by omega) (by omega) hidx').mono ?_
      rintro e w' ⟨rfl, q, rfl⟩
      refine ⟨Fr.drewN w q, i, if c = i + 1 then some ⟨g, 0, none⟩ else some ⟨g, 0 + (i + 1), none⟩, n - (i + 1), c - (i + 1), true, ?_, by omega, h3, ?_, ?_, ?_, ?_, ?_⟩
      · unfold Lib.cutV
        rw [if_pos (by omega)]
        unfold Lib.fromV
        simp [add_plain]
      · rw [h4]; simp; omega
      · rw [h4]
        exact (BIn.kept (F := fun _ => False) hin (Fr.drewN w q) (fun _ _ _ h => h)).drop hnc
      · omega
      · intro e; split at e <;> cases e
      · intro a' e
        split at e
        · cases e; exact ⟨_, _, rfl, rfl⟩
        · cases e; exact ⟨_, _, rfl, rfl⟩
    · have hidx' : Calls Tryd.prog 40 #[.slice (some ⟨g, 0, none⟩) n c, .slice (some ⟨sb, so, none⟩) 1 sc] w fun e w' => e = .returned (.int .i64 (-1)) ∧ ∃ q, w' = w.drewN q :=
        hidx.mono fun e w' ⟨h5, h6⟩ => ⟨by rw [h5, ← h1]; rfl, 0, h6⟩
      refine (Tryd.bytes_Cut_of _ _ n c 1 sc (-1) w hnc (by omega) (by omega) (by omega) hidx').mono ?_
      rintro e w' ⟨rfl, q, rfl⟩
      refine ⟨Fr.drewN w q, n, none, 0, 0, false, rfl, Nat.le_refl _, by rw [h2, List.take_of_length_le (by omega)], by rw [h3]; rfl, BIn.zero _ _ _, Nat.le_refl _, fun _ => ⟨rfl, rfl⟩, fun a' e => by cases e⟩

theorem cutPrefix_any (w : World) (p : Option Addr) (n c sb so sc : Nat) (xs : List Int) (hx : xs.length = n) (hnc : n ≤ c) (hB : IsB xs) (hp : p = none → n = 0 ∧ c = 0) (hpo : ∀ a, p = some a → ∃ g o, a = ⟨g, o, none⟩) (hin : BIn w p n xs) (hs : w.cell? ⟨sb, so, none⟩ = some (.int .u8 32)) :
    Calls Tryd.prog 33 #[.slice p n c, .slice (some ⟨sb, so, none⟩) 1 sc] w fun e w' => w = w' ∧ ∃ p' n' c' f, e = .returned (.tuple #[.slice p' n' c', .bool f]) ∧
      (M.unSpace xs).length = n' ∧ BIn w' p' n' (M.unSpace xs) ∧ n' ≤ c' ∧ (p' = none → n' = 0 ∧ c' = 0) ∧ (∀ a', p' = some a' → ∃ a, p = some a ∧ a'.block = a.block) := by
  have hs' : Lib.BytesIn w (some ⟨sb, so, none⟩) 1 [32] := fun _ => ⟨sb, so, rfl, fun i hi => by obtain rfl : i = 0 := by omega
                                                                                                 simpa using hs⟩
  refine (Tryd.bytes_CutPrefix_all p (some ⟨sb, so, none⟩) n c 1 sc xs [32] w hx rfl hnc hin.bytesIn hs').mono ?_
  rintro e w' ⟨rfl, rfl⟩
  refine ⟨rfl, ?_⟩
  cases p with
  | none =>
    obtain ⟨rfl, rfl⟩ := hp rfl
    obtain rfl : xs = [] := List.eq_nil_of_length_eq_zero hx
    exact ⟨none, 0, 0, false, rfl, rfl, BIn.zero _ _ _, Nat.le_refl _, fun _ => ⟨rfl, rfl⟩, fun a' e => by cases e⟩
  | some a =>
    obtain ⟨g, o, rfl⟩ := hpo a rfl
    cases xs with
    | nil =>
      obtain rfl : n = 0 := hx.symm
      exact ⟨some ⟨g, o, none⟩, 0, c, false, rfl, rfl, BIn.zero _ _ _, hnc, (fun e => by cases e), fun a' e => ⟨_, rfl, by cases e; rfl⟩⟩
    | cons x r =>
      have hx0 : 0 ≤ x ∧ x < 256 := hB x (by simp)
      have e : (UInt8.ofNat (32 : Int).toNat == UInt8.ofNat x.toNat) = ((32 : Int) == x) := byte_eq (by omega) hx0
      by_cases h32 : x = 32
      · subst h32
        refine ⟨if c = 1 then some ⟨g, o, none⟩ else some ⟨g, o + 1, none⟩, n - 1, c - 1, true, ?_, ?_, ?_, by omega, ?_, ?_⟩
        · have hpf : Lib.hasPrefix (Lib.bytesOf (32 :: r)) (Lib.bytesOf [32]) = true := by simp [Lib.hasPrefix, Lib.bytesOf]
          simp only [Lib.trimPrefixV, Lib.bytesTrimPrefix, hpf, if_true, Lib.sliceFrom, List.length_cons, List.length_nil]
        · simp [M.unSpace] at hx ⊢; omega
        · have := hin.drop (j := 1) hnc
          simpa [M.unSpace] using this
        · intro e; split at e <;> cases e
        · intro a' e
          split at e
          · cases e; exact ⟨_, rfl, rfl⟩
          · cases e; exact ⟨_, rfl, rfl⟩
      · refine ⟨some ⟨g, o, none⟩, n, c, false, ?_, ?_, ?_, hnc, (fun e => by cases e), fun a' e => ⟨_, rfl, by cases e; rfl⟩⟩
        · have e' : ((32 : Int) == x) = false := by simp; omega
          have hpf : Lib.hasPrefix (Lib.bytesOf (x :: r)) (Lib.bytesOf [32]) = false := by
            rw [e'] at e
            simp only [Lib.hasPrefix, Lib.bytesOf, List.map_cons, List.map_nil, List.isPrefixOf, e, Bool.false_and]
          simp [Lib.trimPrefixV, Lib.bytesTrimPrefix, hpf]
        · have e' : (x == (32 : Int)) = false := by simpa using h32
          simp [M.unSpace, e']; simpa using hx
        · have e' : (x == (32 : Int)) = false := by simpa using h32
          simp [M.unSpace, e']; exact hin
end Go.Proofs.Qxb6602599aDoor
