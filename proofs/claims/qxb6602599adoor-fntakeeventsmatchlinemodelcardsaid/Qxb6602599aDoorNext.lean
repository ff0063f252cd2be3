import Derived.Test.Qxb6602599aDoorHold
namespace Go.Proofs.Qxb6602599aDoor
open Go.RowKit
open Go

structure Fin (S : M.St) (d t : Bool) (nm dt : List Int) : Prop where
  disp : S.disp = d
  too : S.tooLong = t
  on : d = true → S.fname = M.named (M.toBytes nm) ∧ S.fdata = M.toBytes dt
  off : d = false → S.fname = [] ∧ S.fdata = []
  bn : IsB nm
  bd : IsB dt
  ln : nm.length ≤ 65536
  ld : dt.length ≤ 65536

theorem Fin.of {F S : M.St} {hd : Bool} {z : Int} {nm dt en ed : List Int} {t : Bool} (h : M.Ag S hd z nm dt en ed) (he : M.core F = (S.disp, t, S.fname, S.fdata)) : Fin F S.disp t nm dt := by
  have e : F.disp = S.disp ∧ F.tooLong = t ∧ F.fname = S.fname ∧ F.fdata = S.fdata := by simpa [M.core] using he
  exact ⟨e.1, e.2.1, fun k => by rw [e.2.2.1, e.2.2.2]; exact h.on k, fun k => by rw [e.2.2.1, e.2.2.2]; exact h.off k, h.bn, h.bd, h.ln, h.ld⟩

def SPost (w : World) (xs : List Int) (e : Ending) (w' : World) : Prop := ∃ v7 v10 v11 v16 v17 d t ec nm dt en ed, e = .returned (.tuple #[v7, .bool d, .bool t, v10, v11]) ∧ MS w.heap.size w w' v7 v10 v11 v16 v17 ec nm dt en ed ∧ (M.evs M.init xs 0).1 = ec ∧ Fin (M.evs M.init xs 0).2 d t nm dt

theorem SPost.mk {w : World} {xs : List Int} {w' : World} {v7 v10 v11 v16 v17 : Value} {d t : Bool} {ec nm dt en ed : List Int} (h1 : MS w.heap.size w w' v7 v10 v11 v16 v17 ec nm dt en ed) (h2 : (M.evs M.init xs 0).1 = ec) (h3 : Fin (M.evs M.init xs 0).2 d t nm dt) :
    SPost w xs (.returned (.tuple #[v7, .bool d, .bool t, v10, v11])) w' := ⟨v7, v10, v11, v16, v17, d, t, ec, nm, dt, en, ed, rfl, h1, h2, h3⟩

theorem M.brk_before {ys : List Int} {i : Nat} (h : i < M.brk ys) : M.eol (ys.getD i 0) = false := by
  have hl := M.brk_le ys
  cases he : M.eol (ys.getD i 0)
  · rfl
  · have := M.brk_hit (Nat.le_of_lt h) (by omega) he
    omega
theorem M.brk_at {ys : List Int} (h : M.brk ys < ys.length) : M.eol (ys.getD (M.brk ys) 0) = true := by
  cases he : M.eol (ys.getD (M.brk ys) 0)
  · have := M.brk_step (Nat.le_refl _) h he
    omega
  · rfl
theorem getD_drop (xs : List Int) (i j : Nat) : (xs.drop i).getD j 0 = xs.getD (i + j) 0 := by simp [List.getD]

theorem bool_of (p : Prop) : ∃ t : Bool, t = true ↔ p := by
  by_cases h : p
  · exact ⟨true, ⟨fun _ => h, fun _ => rfl⟩⟩
  · exact ⟨false, ⟨(fun e => by cases e), fun e => absurd e h⟩⟩

structure Spot (xs : List Int) (n pos J NX : Nat) (crlf : Bool) : Prop where
  len : xs.length = n
  isB : IsB xs
  j : J = pos + M.brk (xs.drop pos)
  lt : J < n
  cr : crlf = true ↔ xs.getD J 0 = 13 ∧ J + 1 < n ∧ xs.getD (J + 1) 0 = 10
  nx : NX = if crlf = true then J + 2 else J + 1

def lineAt (xs : List Int) (pos J : Nat) : List Int := (xs.drop pos).take (J - pos)

theorem Spot.next {xs : List Int} {n pos J NX : Nat} {crlf : Bool} (h : Spot xs n pos J NX crlf) : NX = J + 1 ∧ ¬ (xs.getD J 0 = 13 ∧ (xs.drop (J + 1)).head? = some 10) ∨ NX = J + 2 ∧ xs.getD J 0 = 13 ∧ (xs.drop (J + 1)).head? = some 10 := by
  have hh : (xs.drop (J + 1)).head? = some 10 ↔ J + 1 < n ∧ xs.getD (J + 1) 0 = 10 := by
    rw [List.head?_drop]
    by_cases hlt : J + 1 < xs.length
    · rw [List.getElem?_eq_getElem hlt]
      simp [List.getD, hlt, ← h.len]
    · rw [List.getElem?_eq_none (by omega)]
      simp
      intro e
      have := h.len
      omega
  have hnx := h.nx
  cases crlf
  · left
    refine ⟨hnx, fun e => ?_⟩
    have := h.cr.2 ⟨e.1, hh.1 e.2⟩
    cases this
  · right
    have := h.cr.1 rfl
    exact ⟨hnx, this.1, hh.2 this.2⟩

theorem Spot.bd {xs : List Int} {n pos J NX : Nat} {crlf : Bool} (h : Spot xs n pos J NX crlf) : J + 1 ≤ NX ∧ NX ≤ n := by
  have h1 := h.nx
  have h2 := h.lt
  cases crlf
  · simp at h1; omega
  · have := (h.cr.1 rfl).2.1
    simp at h1; omega

theorem Spot.line {xs : List Int} {n pos J NX : Nat} {crlf : Bool} (h : Spot xs n pos J NX crlf) : xs.drop pos = lineAt xs pos J ++ xs.getD J 0 :: xs.drop (J + 1) ∧ (lineAt xs pos J).length = J - pos ∧ (∀ x ∈ lineAt xs pos J, M.eol x = false) ∧ (xs.getD J 0 = 13 ∨ xs.getD J 0 = 10) := by
  have hj := h.j
  have hl := h.len
  have hlt := h.lt
  refine ⟨?_, ?_, ?_, ?_⟩
  · have e1 := (List.take_append_drop (J - pos) (xs.drop pos)).symm
    rw [List.drop_drop, show pos + (J - pos) = J from by omega, drop_cons (xs := xs) (k := J) (by omega)] at e1
    exact e1
  · unfold lineAt
    rw [List.length_take, List.length_drop]; omega
  · unfold lineAt
    rw [show J - pos = M.brk (xs.drop pos) from by omega]
    exact M.take_brk (xs.drop pos)
  · have := M.brk_at (ys := xs.drop pos) (by rw [List.length_drop]; omega)
    rw [getD_drop, ← hj] at this
    simpa [M.eol] using this

theorem Spot.lineB {xs : List Int} {n pos J NX : Nat} {crlf : Bool} (h : Spot xs n pos J NX crlf) : IsB (lineAt xs pos J) := fun x hx => h.isB x (List.mem_of_mem_drop (List.mem_of_mem_take hx))

theorem Spot.empty {xs : List Int} {n pos J NX : Nat} {crlf : Bool} (h : Spot xs n pos J NX crlf) (hp : J = pos) {S : M.St} {ec : List Int} (hr : M.LRel xs pos S ec) : M.LRel xs NX (M.emptyLine S) (ec ++ if S.pending = true then [((J : Int) + 1)] else []) := by
  obtain ⟨h1, h2, h3, h4⟩ := h.line
  have he : lineAt xs pos J = [] := List.eq_nil_of_length_eq_zero (by rw [h2]; omega)
  rw [he] at h1
  have hq := M.eol_empty hr.begun hr.at0
  have := hr.eol (l := []) h1 (T := S) (U := M.emptyLine S) (f := S.pending) rfl hq.1 hq.2 h4 (by rw [M.empty_at]; exact hr.at0) (by rw [M.empty_begun]; exact hr.begun) (M.inv_empty hr.inv (by rw [hr.at0]; decide)) NX
    (by have := h.next; rw [hp] at this; simpa [hp] using this)
  simpa [hp] using this

theorem Spot.ended {xs : List Int} {n pos J NX : Nat} {crlf : Bool} (h : Spot xs n pos J NX crlf) {S T : M.St} {ec : List Int} (hr : M.LRel xs pos S ec) (hT : M.evs S (lineAt xs pos J) pos = ([], T)) (hb : T.begun = true) (ha : T.at_ = 2 ∨ T.at_ = 3) (hI : M.Inv T) : M.LRel xs NX (M.lineEnd T) ec := by
  obtain ⟨h1, h2, h3, h4⟩ := h.line
  have hq := M.eol_line hb ha
  have hpj : pos ≤ J := by have := h.j; omega
  have := hr.eol h1 hT hq.1 hq.2 h4 (M.lineEnd_at T) (by rw [M.lineEnd_begun]; exact hb) (M.inv_lineEnd hI) NX
    (by have := h.next; rw [h2, show pos + (J - pos) = J from by omega]; exact this)
  simpa using this

theorem line_cons {xs : List Int} {pos J : Nat} (hp : pos < J) (hl : J ≤ xs.length) : lineAt xs pos J = xs.getD pos 0 :: (xs.drop (pos + 1)).take (J - pos - 1) := by
  unfold lineAt
  rw [drop_cons (xs := xs) (k := pos) (by omega), show J - pos = (J - pos - 1) + 1 from by omega, List.take_succ_cons]
  rfl

theorem text_field {xs : List Int} {pos J : Nat} {S : M.St} {ec : List Int} (hr : M.LRel xs pos S ec) (hp : pos < J) (hl : J ≤ xs.length) (he : ∀ x ∈ lineAt xs pos J, M.eol x = false) (h58 : xs.getD pos 0 ≠ 58) : M.evs S (lineAt xs pos J) pos = ([], M.fieldT S (lineAt xs pos J)) := by
  have e := line_cons hp hl
  rw [e] at he ⊢
  exact M.evs_field hr.begun hr.at0 hr.inv.max he h58
theorem text_colon {xs : List Int} {pos J : Nat} {S : M.St} {ec : List Int} (hr : M.LRel xs pos S ec) (hp : pos < J) (hl : J ≤ xs.length) (he : ∀ x ∈ lineAt xs pos J, M.eol x = false) (h58 : xs.getD pos 0 = 58) : M.evs S (lineAt xs pos J) pos = ([], { S with at_ := 2 }) := by
  have e := line_cons hp hl
  rw [h58] at e
  rw [e] at he ⊢
  exact M.evs_colon hr.begun hr.at0 hr.inv.max he

theorem Spot.colon {xs : List Int} {n pos J NX : Nat} {crlf : Bool} (h : Spot xs n pos J NX crlf) {S : M.St} {ec : List Int} (hr : M.LRel xs pos S ec) (hp : pos < J) (h58 : xs.getD pos 0 = 58) : M.LRel xs NX S ec := by
  have := h.ended hr (text_colon hr hp (by rw [h.len]; exact Nat.le_of_lt h.lt) h.line.2.2.1 h58) hr.begun (.inl rfl) (M.inv_at hr.inv (by rw [hr.at0]; decide) (.inr (.inr rfl)))
  rwa [M.lineEnd_two hr.at0] at this

theorem Spot.field {xs : List Int} {n pos J NX : Nat} {crlf : Bool} (h : Spot xs n pos J NX crlf) {S : M.St} {ec : List Int} (hr : M.LRel xs pos S ec) (hp : pos < J) (h58 : xs.getD pos 0 ≠ 58) : M.LRel xs NX (M.lineEnd (M.fieldT S (lineAt xs pos J))) ec := by
  have ht := text_field hr hp (by rw [h.len]; exact Nat.le_of_lt h.lt) h.line.2.2.1 h58
  have hi := M.inv_evs (lineAt xs pos J) (pos : Int) hr.inv h.lineB
  rw [ht] at hi
  exact h.ended hr ht (by rw [M.fieldT_begun]; exact hr.begun) (.inr (M.fieldT_at _ _)) hi

theorem last_line {xs : List Int} {pos : Nat} {S : M.St} {ec : List Int} {hd : Bool} {z : Int} {nm dt en ed : List Int} (hr : M.LRel xs pos S ec) (hag : M.Ag S hd z nm dt en ed) (hp : pos < xs.length) (hJ : xs.length = pos + M.brk (xs.drop pos)) (isF : Bool) (hF : isF = true ↔ xs.getD pos 0 ≠ 58) :
    (M.evs M.init xs 0).1 = ec ∧ Fin (M.evs M.init xs 0).2 S.disp (if isF = true then M.tooNext S z (lineAt xs pos xs.length) else S.tooLong) nm dt := by
  have hd : lineAt xs pos xs.length = xs.drop pos := by
    unfold lineAt
    exact List.take_of_length_le (by rw [List.length_drop]; exact Nat.le_refl _)
  have he : ∀ x ∈ lineAt xs pos xs.length, M.eol x = false := by
    unfold lineAt
    rw [show xs.length - pos = M.brk (xs.drop pos) from by omega]
    exact M.take_brk (xs.drop pos)
  cases isF
  · have h58 : xs.getD pos 0 = 58 := by
      by_cases h : xs.getD pos 0 = 58
      · exact h
      · exact absurd (hF.2 h) (by decide)
    have ht := text_colon hr hp (Nat.le_refl _) he h58
    rw [hd] at ht
    refine ⟨by rw [hr.ev, ht, List.append_nil], ?_⟩
    exact Fin.of hag (by rw [hr.st, ht]; rfl)
  · have ht := text_field hr hp (Nat.le_refl _) he (hF.1 rfl)
    have hc := M.fieldT_core hag (lineAt xs pos xs.length)
    rw [hd] at ht hc
    refine ⟨by rw [hr.ev, ht, List.append_nil], ?_⟩
    rw [if_pos rfl, hd]
    exact Fin.of hag (by rw [hr.st, ht]; exact hc)

theorem too_eq {S : M.St} {D T isF rd T2 : Bool} {z Z : Int} {J pos : Nat} {l : List Int} (hD : D = S.disp) (hT : T = S.tooLong) (hrd : rd = (isF && (!D && !T))) (hZ : Z = if rd = true then z + ((J : Int) - (pos : Int)) else z) (hT2 : T2 = (T || (rd && decide (Z > 65536)))) (hl : l.length = J - pos) (hJ : pos ≤ J) :
    (if isF = true then M.tooNext S z l else S.tooLong) = T2 := by
  cases isF
  · simp at hrd
    rw [hT2, hrd, hT]; simp
  · have hr : rd = M.reading S := by rw [hrd, hD, hT]; simp [M.reading]
    have hz : Z = M.zNext S z l := by
      rw [hZ, hr, M.zNext, hl]
      split
      · omega
      · rfl
    rw [if_pos rfl, hT2, M.tooNext, hT, hr, hz]
theorem z_eq {S : M.St} {D T rd : Bool} {z Z : Int} {J pos : Nat} {l : List Int} (hD : D = S.disp) (hT : T = S.tooLong) (hrd : rd = (true && (!D && !T))) (hZ : Z = if rd = true then z + ((J : Int) - (pos : Int)) else z) (hl : l.length = J - pos) (hJ : pos ≤ J) : Z = M.zNext S z l := by
  have hr : rd = M.reading S := by rw [hrd, hD, hT]; simp [M.reading]
  rw [hZ, hr, M.zNext, hl]
  split
  · omega
  · rfl

theorem Bs.bin {w : World} {F : Nat → Prop} {p : Option Addr} {n c : Nat} {xs : List Int} (h : Bs w F (.slice p n c) xs) : BIn w p n xs := by
  obtain ⟨p', n', c', e, hn, hin, _⟩ := h
  cases e
  exact hin

theorem at_end {xs : List Int} {S : M.St} {ec : List Int} {hd : Bool} {z : Int} {nm dt en ed : List Int} (hr : M.LRel xs xs.length S ec) (hag : M.Ag S hd z nm dt en ed) : (M.evs M.init xs 0).1 = ec ∧ Fin (M.evs M.init xs 0).2 S.disp S.tooLong nm dt := by
  have e : xs.drop xs.length = [] := List.drop_eq_nil_of_le (Nat.le_refl _)
  have h1 := hr.ev
  have h2 := hr.st
  rw [e] at h1 h2
  exact ⟨by simpa [M.evs] using h1, Fin.of hag h2⟩

theorem MS.data_bin {B : Nat} {w0 w : World} {v7 v10 v11 v16 : Value} {ao : Option Addr} {cap : Nat} {ec nm dt en ed : List Int} (h : MS B w0 w v7 v10 v11 v16 (.slice ao ed.length cap) ec nm dt en ed) : BIn w ao (ed.length - 1) ed.dropLast := by
  intro h0
  rcases own_cells (xs := ed) h.o17 with ⟨e, he⟩ | ⟨g, cap', e, hc⟩
  · omega
  · cases e
    refine ⟨g, 0, rfl, fun i hi => ?_⟩
    rw [hc i (by omega)]
    have h1 : i < ed.length := by omega
    simp [List.getD, hi, h1]
end Go.Proofs.Qxb6602599aDoor
