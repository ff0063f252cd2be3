import Derived.Lib.DecodeN
import Derived.Lib.TrimU
import Derived.Lib.IndexEntry
import Derived.Lib.IndexLaws
namespace Go.Proofs.Qxb6602599aDoor
open Go Go.Lib

theorem dec_facts (n b0 b1 b2 b3 : Nat) (hn : 1 ≤ n) (h0 : 128 ≤ b0) (h0' : b0 < 256) :
    ∃ R K, decodeN n b0 b1 b2 b3 = (R, K) ∧ 1 ≤ K ∧ K ≤ n ∧ 128 ≤ R ∧ R ≤ 1114111 ∧ (2 ≤ K → 128 ≤ b1) ∧ (3 ≤ K → 128 ≤ b2) ∧ (4 ≤ K → 128 ≤ b3) ∧ K ≤ 4 ∧
      (R = 65533 ∨ (K = 2 ∧ R < 2048) ∨ (K = 3 ∧ 2048 ≤ R ∧ R < 65536 ∧ (R < 55296 ∨ 57344 ≤ R)) ∨ (K = 4 ∧ 65536 ≤ R)) := by
  unfold decodeN
  rw [if_neg (by omega)]
  split
  · rename_i h
    split
    · exact ⟨_, _, rfl, by omega, by omega, by omega, by omega, by omega, by omega, by omega, by omega, .inr (.inl ⟨rfl, by omega⟩)⟩
    · exact ⟨_, _, rfl, by omega, by omega, by omega, by omega, by omega, by omega, by omega, by omega, .inl rfl⟩
  · split
    · rename_i h
      split
      · rename_i h2
        exact ⟨_, _, rfl, by omega, by omega, by omega, by omega, by omega, by omega, by omega, by omega, .inr (.inr (.inl ⟨rfl, by omega, by omega, by omega⟩))⟩
      · exact ⟨_, _, rfl, by omega, by omega, by omega, by omega, by omega, by omega, by omega, by omega, .inl rfl⟩
    · split
      · rename_i h
        split
        · rename_i h2
          exact ⟨_, _, rfl, by omega, by omega, by omega, by omega, by omega, by omega, by omega, by omega, .inr (.inr (.inr ⟨rfl, by omega⟩))⟩
        · exact ⟨_, _, rfl, by omega, by omega, by omega, by omega, by omega, by omega, by omega, by omega, .inl rfl⟩
      · exact ⟨_, _, rfl, by omega, by omega, by omega, by omega, by omega, by omega, by omega, by omega, .inl rfl⟩

theorem valid_of (R : Nat) (h : R < 55296 ∨ (57344 ≤ R ∧ R ≤ 1114111)) : Utf8.valid (R : Int) = true := by
  unfold Utf8.valid
  simp
  omega

theorem enc2 (R : Nat) (h1 : 128 ≤ R) (h2 : R < 2048) : ([13, 10] == (Utf8.encode (R : Int)).toList) = false := by
  have hv : Utf8.valid (R : Int) = true := valid_of R (.inl (by omega))
  have e : Utf8.encode (R : Int) = ⟨#[UInt8.ofNat (192 + R / 64), UInt8.ofNat (128 + R % 64)]⟩ := by
    unfold Utf8.encode
    simp only [hv, if_true, Int.toNat_natCast]
    rw [if_neg (by omega), if_pos (by omega)]
  rw [e, toList_data]
  have h3 : ((13 : UInt8) == UInt8.ofNat (192 + R / 64)) = false := by
    rw [beq_eq_false_iff_ne]
    intro h
    have := congrArg UInt8.toNat h
    simp only [UInt8.toNat_ofNat'] at this
    have h13 : (13 : UInt8).toNat = 13 := rfl
    have : (192 + R / 64) % 2 ^ 8 = 192 + R / 64 := Nat.mod_eq_of_lt (by omega)
    omega
  show (13 == UInt8.ofNat (192 + R / 64) && _) = false
  rw [h3]; rfl

theorem enc3_size (R : Nat) (h1 : 2048 ≤ R) (h2 : R < 65536) (h3 : R < 55296 ∨ 57344 ≤ R) : (Utf8.encode (R : Int)).size = 3 := by
  have hv : Utf8.valid (R : Int) = true := valid_of R (by omega)
  unfold Utf8.encode
  simp only [hv, if_true, Int.toNat_natCast]
  rw [if_neg (by omega), if_neg (by omega), if_pos (by omega)]
  rfl

theorem enc4_size (R : Nat) (h1 : 65536 ≤ R) (h2 : R ≤ 1114111) : (Utf8.encode (R : Int)).size = 4 := by
  have hv : Utf8.valid (R : Int) = true := valid_of R (by omega)
  unfold Utf8.encode
  simp only [hv, if_true, Int.toNat_natCast]
  rw [if_neg (by omega), if_neg (by omega), if_neg (by omega)]
  rfl

theorem idx_long (b : ByteArray) (h : 3 ≤ b.size) : index (⟨#[13, 10]⟩ : ByteArray).data.toList b.data.toList = -1 := by
  have hl : b.data.toList.length = b.size := (size_eq b).symm
  have h2 : (⟨#[13, 10]⟩ : ByteArray).data.toList.length = 2 := rfl
  exact index_long (by omega) (fun e => by rw [e] at hl; omega)

theorem idx_eol (c : Int) (h : 0 ≤ c ∧ c < 256) : Lib.indexByte (⟨#[13, 10]⟩ : ByteArray).data.toList c.toNat.toUInt8 = if c = 13 then 0 else if c = 10 then 1 else -1 := by
  have e : ∀ k : Int, 0 ≤ k ∧ k < 256 → ((UInt8.ofNat k.toNat == c.toNat.toUInt8) = decide (k = c)) := by
    intro k hk
    rw [Bool.eq_iff_iff]
    simp only [beq_iff_eq, decide_eq_true_eq]
    constructor
    · intro h3
      have h2 := congrArg UInt8.toNat h3
      rw [show c.toNat.toUInt8 = UInt8.ofNat c.toNat from rfl] at h2
      simp only [UInt8.toNat_ofNat'] at h2
      have e1 : k.toNat % 2 ^ 8 = k.toNat := Nat.mod_eq_of_lt (by omega)
      have e2 : c.toNat % 2 ^ 8 = c.toNat := Nat.mod_eq_of_lt (by omega)
      omega
    · intro h3; rw [h3]
  have e13 : ((13 : UInt8) == c.toNat.toUInt8) = decide ((13 : Int) = c) := e 13 (by omega)
  have e10 : ((10 : UInt8) == c.toNat.toUInt8) = decide ((10 : Int) = c) := e 10 (by omega)
  show Lib.indexByte [13, 10] c.toNat.toUInt8 = _
  simp only [Lib.indexByte, e13, e10]
  by_cases h13 : c = 13
  · subst h13; rfl
  · have : ¬ (13 : Int) = c := fun h => h13 h.symm
    by_cases h10 : c = 10
    · subst h10; rfl
    · have : ¬ (10 : Int) = c := fun h => h10 h.symm
      simp [*]
end Go.Proofs.Qxb6602599aDoor
