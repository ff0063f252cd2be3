import Derived.Test.Qxb6603125aDoorLabel
import Derived.Lib.SplitLaws
import Derived.Lib.SlTrimSet
namespace Go.Proofs.Qxb6603125aDoor
open Go

def pcs : List UInt8 → List (List UInt8)
  | [] => [[]]
  | c :: l => if c = 46 then [] :: pcs l else match pcs l with
    | [] => [[c]]
    | p :: ps => (c :: p) :: ps

theorem pcs_ne : ∀ l, pcs l ≠ []
  | [] => by simp [pcs]
  | c :: l => by
    unfold pcs
    split
    · simp
    · split <;> simp

theorem pcs_none : ∀ {l : List UInt8}, (∀ x ∈ l, x ≠ 46) → pcs l = [l]
  | [], _ => rfl
  | c :: l, h => by
    unfold pcs
    rw [if_neg (h c (by simp)), pcs_none (l := l) (fun x hx => h x (by simp [hx]))]

theorem pcs_app : ∀ (A B : List UInt8), pcs (A ++ 46 :: B) = pcs A ++ pcs B
  | [], B => by simp [pcs]
  | c :: A, B => by
    rw [List.cons_append, pcs, pcs, pcs_app A B]
    split
    · rfl
    · cases h : pcs A with
      | nil => exact absurd h (pcs_ne A)
      | cons p ps => rfl

theorem pcs_dot {P : List UInt8} (h : ∀ x ∈ P, x ≠ 46) (B : List UInt8) : pcs (P ++ 46 :: B) = P :: pcs B := by
  rw [pcs_app, pcs_none h]; rfl

theorem getD_of_lt {l : List UInt8} {i : Nat} (h : i < l.length) : l[i]? = some (l.getD i 0) := by
  rw [List.getD, List.getElem?_eq_getElem h]; rfl

theorem piece_mem {L : List UInt8} {st j : Nat} (h : ∀ i, st ≤ i → i < j → L.getD i 0 ≠ 46) : ∀ x ∈ (L.drop st).take (j - st), x ≠ 46 := by
  intro x hx
  obtain ⟨k, hk, rfl⟩ := List.mem_iff_getElem.1 hx
  simp only [List.length_take, List.length_drop] at hk
  rw [List.getElem_take, List.getElem_drop]
  have := h (st + k) (by omega) (by omega)
  rw [List.getD, List.getElem?_eq_getElem (by omega)] at this
  exact this

theorem drop_split {L : List UInt8} {st j : Nat} (h1 : st ≤ j) (h2 : j < L.length) : L.drop st = (L.drop st).take (j - st) ++ L.getD j 0 :: L.drop (j + 1) := by
  have e : (L.drop st).drop (j - st) = L.getD j 0 :: L.drop (j + 1) := by
    rw [List.drop_drop, show st + (j - st) = j from by omega, List.drop_eq_getElem_cons h2]
    congr 1
    rw [List.getD, List.getElem?_eq_getElem h2]; rfl
  conv => lhs; rw [← List.take_append_drop (j - st) (L.drop st)]
  rw [e]

theorem pcs_at {L : List UInt8} {st j : Nat} (h1 : st ≤ j) (h2 : j < L.length) (hd : L.getD j 0 = 46) (h : ∀ i, st ≤ i → i < j → L.getD i 0 ≠ 46) : pcs (L.drop st) = (L.drop st).take (j - st) :: pcs (L.drop (j + 1)) := by
  conv => lhs; rw [drop_split h1 h2, hd]
  exact pcs_dot (piece_mem h) _
theorem pcs_end {L : List UInt8} {st : Nat} (h : ∀ i, st ≤ i → i < L.length → L.getD i 0 ≠ 46) : pcs (L.drop st) = [(L.drop st).take (L.length - st)] := by
  have e : (L.drop st).take (L.length - st) = L.drop st := List.take_of_length_le (by simp)
  rw [e]
  refine pcs_none ?_
  have := piece_mem h
  rwa [e] at this

def lastp (l : List UInt8) : List UInt8 := (pcs l).getLast (pcs_ne l)
theorem lastp_at {L : List UInt8} {k : Nat} (hk : k ≤ L.length) (h0 : k = 0 ∨ (0 < k ∧ L.getD (k - 1) 0 = 46)) (h : ∀ i, k ≤ i → i < L.length → L.getD i 0 ≠ 46) : lastp L = L.drop k := by
  have hn := pcs_end h
  have e : (L.drop k).take (L.length - k) = L.drop k := List.take_of_length_le (by simp)
  rw [e] at hn
  unfold lastp
  rcases h0 with rfl | ⟨h0, hd⟩
  · simp only [List.drop_zero] at hn ⊢
    simp [hn]
  · have h3 := drop_split (L := L) (st := 0) (j := k - 1) (by omega) (by omega)
    rw [hd, show k - 1 + 1 = k from by omega, List.drop_zero] at h3
    have e2 : pcs L = pcs (L.take (k - 1 - 0)) ++ pcs (L.drop k) := by
      conv => lhs; rw [h3]
      exact pcs_app _ _
    simp only [e2, hn]
    simp

def goods : Bool → List (List UInt8) → Bool
  | _, [] => true
  | f, p :: ps => ((f && p == [42]) || lab p) && goods false ps

def dns (L : List UInt8) : Bool := decide (L.length ≤ 253) && goods (decide (1 < L.length)) (pcs L) && !(lastp L).all isD

theorem split_pcs : ∀ (k : Nat) (l : List UInt8), l.count 46 = k → Lib.splitK [46] 0 k l = pcs l := by
  intro k
  induction k with
  | zero =>
    intro l h
    have hn : ∀ x ∈ l, x ≠ 46 := fun x hx e => by subst e; exact absurd hx (List.count_eq_zero.1 h)
    rw [pcs_none hn]; rfl
  | succ k ih =>
    intro l h
    have hi : Lib.indexByte l 46 ≠ -1 := fun e => by
      have h1 : (46 : UInt8) ∈ l := by
        apply List.count_pos_iff.1; omega
      obtain ⟨i, hi, h2⟩ := List.mem_iff_getElem.1 h1
      exact Lib.indexByte_none e i (by rw [List.getElem?_eq_getElem hi, h2])
    have hge := Lib.indexByte_ge l 46
    obtain ⟨o, ho⟩ : ∃ o : Nat, Lib.indexByte l 46 = o := ⟨(Lib.indexByte l 46).toNat, by omega⟩
    obtain ⟨h1, h2⟩ := Lib.indexByte_some ho
    have hlt : o < l.length := (List.getElem?_eq_some_iff.1 h1).1
    have hd : l.getD o 0 = 46 := by rw [List.getD, h1]; rfl
    have hb : ∀ i, 0 ≤ i → i < o → l.getD i 0 ≠ 46 := fun i _ hi e => h2 i hi (by rw [getD_of_lt (by omega), e])
    have e := pcs_at (L := l) (st := 0) (Nat.zero_le o) hlt hd hb
    have es := drop_split (L := l) (Nat.zero_le o) hlt
    simp only [List.drop_zero, Nat.sub_zero] at e es
    have hc0 : (l.take o).count 46 = 0 := List.count_eq_zero.2 (fun hm => by
      have := piece_mem (L := l) (st := 0) (j := o) hb
      simp only [List.drop_zero, Nat.sub_zero] at this
      exact this _ hm rfl)
    have hc : (l.drop (o + 1)).count 46 = k := by
      have := congrArg (List.count 46) es
      rw [List.count_append, hc0, hd, List.count_cons_self, h] at this
      omega
    rw [e, Lib.splitK, Lib.index_one, if_neg (by rw [beq_iff_eq]; exact hi), ho]
    simp only [Int.toNat_natCast, Nat.add_zero, List.length_singleton]
    rw [ih _ hc]

theorem splitB_pcs (s : ByteArray) : (Lib.splitB ⟨#[46]⟩ 0 (Lib.countB s ⟨#[46]⟩) s).map (·.data.toList) = pcs s.data.toList := by
  rw [Lib.splitB_data]
  refine split_pcs _ _ ?_
  show _ = Lib.count s.data.toList [46]
  rw [Lib.count_one]

theorem pcs_len (s : ByteArray) : (pcs s.data.toList).length = Lib.countB s ⟨#[46]⟩ + 1 := by
  rw [← splitB_pcs, List.length_map, Lib.splitB_all ⟨#[46]⟩ (by decide) 0 _ s rfl]

theorem star_first {L : List UInt8} {p : List UInt8} {ps : List (List UInt8)} (h : pcs L = p :: ps) (hp : p = [42]) : L ≠ [42] ↔ 1 < L.length := by
  subst hp
  cases L with
  | nil => simp [pcs] at h
  | cons c l =>
    constructor
    · intro hne
      cases l with
      | nil =>
        unfold pcs at h
        split at h
        · simp at h
        · simp [pcs] at h; exact absurd (by rw [h.1]) hne
      | cons d l => simp
    · intro h1 e
      rw [e] at h1
      simp at h1

theorem trim_empty (l : List UInt8) : Lib.trimLeftS l [48, 49, 50, 51, 52, 53, 54, 55, 56, 57] = [] ↔ l.all isD = true := by
  have hc : ∀ b : UInt8, ([48, 49, 50, 51, 52, 53, 54, 55, 56, 57] : List UInt8).contains b = isD b := by
    intro b
    have : ∀ n : Fin 256, ([48, 49, 50, 51, 52, 53, 54, 55, 56, 57] : List UInt8).contains (UInt8.ofNat n.val) = isD (UInt8.ofNat n.val) := by decide +kernel
    have h := this ⟨b.toNat, b.toNat_lt⟩
    simpa using h
  unfold Lib.trimLeftS
  rw [show (fun x => ([48, 49, 50, 51, 52, 53, 54, 55, 56, 57] : List UInt8).contains x) = isD from funext hc]
  induction l with
  | nil => simp
  | cons c l ih =>
    rw [List.dropWhile_cons, List.all_cons]
    cases h : isD c
    · simp
    · simpa using ih
end Go.Proofs.Qxb6603125aDoor
