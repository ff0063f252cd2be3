import Derived.Test.Qxb6603125aDoorDnsm
import Derived.Lib.IndexAny
import Derived.Lib.IndexLaws
import Derived.Lib.IndexBytes
import Derived.Lib.IndexMore
namespace Go.Proofs.Qxb6603125aDoor
open Go

def hostn (L : List UInt8) : Bool := dns L && L.head? != some 42
def atom (p : List UInt8) : Bool := p != [] && p.all atx
def atoms (l : List UInt8) : Bool := (pcs l).all atom
def mail (L : List UInt8) : Bool := (Lib.cut L [64]).2.2 && hostn (Lib.cut L [64]).2.1 && atoms (Lib.cut L [64]).1

def sc : Bool → List UInt8 → Bool
  | pd, [] => !pd
  | pd, c :: l => if c = 46 then !pd && sc true l else atx c && sc false l

theorem sc_pcs : ∀ (l : List UInt8) (pd : Bool), ∃ p ps, pcs l = p :: ps ∧ sc pd l = ((!pd || p != []) && p.all atx && ps.all atom)
  | [], pd => ⟨[], [], rfl, by cases pd <;> rfl⟩
  | c :: l, pd => by
    obtain ⟨p, ps, h1, h2⟩ := sc_pcs l true
    obtain ⟨p', ps', h1', h2'⟩ := sc_pcs l false
    rw [h1] at h1'
    obtain ⟨rfl, rfl⟩ : p = p' ∧ ps = ps' := by simpa using h1'
    by_cases hc : c = 46
    · refine ⟨[], p :: ps, by rw [pcs, if_pos hc, h1], ?_⟩
      rw [sc, if_pos hc, h2]
      cases pd <;> simp [atom]
    · refine ⟨c :: p, ps, by rw [pcs, if_neg hc, h1], ?_⟩
      rw [sc, if_neg hc, h2']
      cases pd <;> simp [Bool.and_assoc]

theorem sc_atoms (l : List UInt8) : atoms l = sc true l := by
  obtain ⟨p, ps, h1, h2⟩ := sc_pcs l true
  rw [h2, atoms, h1, List.all_cons, atom]
  simp

theorem sc_last : ∀ (B : List UInt8) (pd : Bool), sc pd (B ++ [46]) = false
  | [], pd => by simp [sc]
  | c :: B, pd => by
    rw [List.cons_append, sc, sc_last B true, sc_last B false]
    simp

theorem dns_ne {L : List UInt8} (h : dns L = true) : L ≠ [] := by
  rintro rfl
  revert h
  decide

theorem cut_none {L : List UInt8} (h : ∀ i, i < L.length → L.getD i 0 ≠ 64) : Lib.cut L [64] = (L, [], false) := by
  have hi : Lib.indexByte L 64 = -1 := by
    have hge := Lib.indexByte_ge L 64
    apply Decidable.byContradiction
    intro hne
    obtain ⟨o, ho⟩ : ∃ o : Nat, Lib.indexByte L 64 = o := ⟨(Lib.indexByte L 64).toNat, by omega⟩
    have h1 := (Lib.indexByte_some ho).1
    have hlt : o < L.length := (List.getElem?_eq_some_iff.1 h1).1
    exact h o hlt (by rw [List.getD, h1]; rfl)
  unfold Lib.cut
  rw [Lib.index_one, hi]
  rfl

theorem cut_at {L : List UInt8} {p : Nat} (hp : p < L.length) (h64 : L.getD p 0 = 64) (h : ∀ i, i < p → L.getD i 0 ≠ 64) : Lib.cut L [64] = (L.take p, L.drop (p + 1), true) := by
  have hi : Lib.indexByte L 64 = p := by
    have hge := Lib.indexByte_ge L 64
    have hne : Lib.indexByte L 64 ≠ -1 := fun e => Lib.indexByte_none e p (by rw [getD_of_lt hp, h64])
    obtain ⟨o, ho⟩ : ∃ o : Nat, Lib.indexByte L 64 = o := ⟨(Lib.indexByte L 64).toNat, by omega⟩
    obtain ⟨h1, h2⟩ := Lib.indexByte_some ho
    have hlt : o < L.length := (List.getElem?_eq_some_iff.1 h1).1
    have ho64 : L.getD o 0 = 64 := by rw [List.getD, h1]; rfl
    have a1 : ¬ o < p := fun e => h o e ho64
    have a2 : ¬ p < o := fun e => h2 p e (by rw [getD_of_lt hp, h64])
    rw [ho]
    omega
  unfold Lib.cut
  rw [Lib.index_one, hi, if_pos (by omega)]
  rfl

theorem sc_step {A : List UInt8} {i : Nat} (hi : i < A.length) (pd : Bool) : sc pd (A.drop i) = if A.getD i 0 = 46 then !pd && sc true (A.drop (i + 1)) else atx (A.getD i 0) && sc false (A.drop (i + 1)) := by
  rw [List.drop_eq_getElem_cons hi, sc]
  have : A.getD i 0 = A[i] := by rw [List.getD, List.getElem?_eq_getElem hi]; rfl
  rw [this]

theorem take_getD {L : List UInt8} {p i : Nat} (hi : i < p) : (L.take p).getD i 0 = L.getD i 0 := by
  rw [List.getD, List.getD, List.getElem?_take_of_lt hi]
end Go.Proofs.Qxb6603125aDoor
