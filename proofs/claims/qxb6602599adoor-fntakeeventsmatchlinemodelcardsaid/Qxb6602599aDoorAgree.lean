import Derived.Test.Qxb6602599aDoorLines
import Derived.Test.Qxb6602599aDoorField
namespace Go.Proofs.Qxb6602599aDoor
open Go
namespace M

structure Ag (S : St) (hd : Bool) (z : Int) (nm dt en ed : List Int) : Prop where
  ghd : reading S = true → hd = S.hasData
  gsz : reading S = true → z = S.size
  gen : reading S = true → en = S.name
  ged : reading S = true → ed = S.data
  on : S.disp = true → S.fname = named (toBytes nm) ∧ S.fdata = toBytes dt
  off : S.disp = false → S.fname = [] ∧ S.fdata = []
  bn : IsB nm
  bd : IsB dt
  z0 : 0 ≤ z
  z1 : z ≤ 1114112
  ln : nm.length ≤ 65536
  ld : dt.length ≤ 65536
  le : en.length ≤ 65536
  lf : ed.length ≤ 65536

def begun0 : St := { init with begun := true }

theorem Ag.start : Ag begun0 false 0 [] [] [] [] :=
  ⟨fun _ => rfl, fun _ => rfl, fun _ => rfl, fun _ => rfl, (fun h => by cases h), fun _ => ⟨rfl, rfl⟩, isB_nil, isB_nil, by omega, by omega, by simp, by simp, by simp, by simp⟩

theorem reading_off {S : St} (h : reading S = true) : S.disp = false ∧ S.tooLong = false := by
  unfold reading at h
  cases hd : S.disp <;> cases ht : S.tooLong <;> simp [hd, ht] at h ⊢

variable {S : St} {hd : Bool} {z : Int} {nm dt en ed : List Int}

theorem Ag.empty (h : Ag S hd z nm dt en ed) (hr : (reading S && hd) = false) : Ag (emptyLine S) false 0 nm dt [] [] := by
  have hc : ¬ (reading S && S.hasData) = true := by
    intro e
    have e' : reading S = true ∧ S.hasData = true := by simpa using e
    rw [h.ghd e'.1, e'.1, e'.2] at hr
    cases hr
  unfold emptyLine
  rw [if_neg hc]
  exact ⟨fun _ => rfl, fun _ => rfl, fun _ => rfl, fun _ => rfl, h.on, h.off, h.bn, h.bd, by omega, by omega, h.ln, h.ld, by simp, by simp⟩

theorem Ag.dispatch (h : Ag S hd z nm dt en ed) (hI : Inv S) (hr : (reading S && hd) = true) : Ag (emptyLine S) false 0 en ed.dropLast [] [] ∧ ed ≠ [] := by
  have e' : reading S = true ∧ hd = true := by simpa using hr
  have hh : S.hasData = true := by rw [← h.ghd e'.1]; exact e'.2
  have e1 := h.gen e'.1
  have e2 := h.ged e'.1
  have hc : (reading S && S.hasData) = true := by rw [e'.1, hh]; rfl
  unfold emptyLine
  rw [if_pos hc]
  refine ⟨⟨(fun k => by simp [reading] at k), (fun k => by simp [reading] at k), (fun k => by simp [reading] at k), (fun k => by simp [reading] at k), fun _ => ⟨by rw [e1], by rw [e2]⟩, (fun k => by cases k), by rw [e1]; exact hI.bn, ?_, by omega, by omega, h.le, ?_, by simp, by simp⟩, by rw [e2]; exact hI.hd e'.1 hh⟩
  · rw [e2]; exact fun x hx => hI.bd x ((List.dropLast_subset _ hx))
  · have := h.lf
    rw [List.length_dropLast]; omega

theorem emptyLine_disp (hr : (reading S && hd) = true) (h : Ag S hd z nm dt en ed) : (emptyLine S).disp = true := by
  have e' : reading S = true ∧ hd = true := by simpa using hr
  unfold emptyLine
  rw [if_pos (by rw [e'.1, ← h.ghd e'.1, e'.2]; rfl)]
theorem emptyLine_same (hr : (reading S && hd) = false) (h : Ag S hd z nm dt en ed) : (emptyLine S).disp = S.disp := by
  have hc : ¬ (reading S && S.hasData) = true := by
    intro e
    have e' : reading S = true ∧ S.hasData = true := by simpa using e
    rw [h.ghd e'.1, e'.1, e'.2] at hr
    cases hr
  unfold emptyLine
  rw [if_neg hc]
theorem emptyLine_too : (emptyLine S).tooLong = S.tooLong := by
  unfold emptyLine; split <;> rfl

theorem eol_empty (hb : S.begun = true) (h0 : S.at_ = 0) : step S 13 = ({ emptyLine S with at_ := 1 }, S.pending) ∧ step S 10 = (emptyLine S, S.pending) := by
  constructor
  · rw [step_empty hb h0 rfl, if_pos rfl]
    unfold emptyLine
    split <;> rename_i h1 <;> split <;> rename_i h2
    · rfl
    · exact absurd h1 h2
    · exact absurd h2 h1
    · rfl
  · rw [step_empty hb h0 rfl, if_neg (by decide)]

theorem eol_line {T : St} (hb : T.begun = true) (h : T.at_ = 2 ∨ T.at_ = 3) : step T 13 = ({ lineEnd T with at_ := 1 }, false) ∧ step T 10 = (lineEnd T, false) := by
  rw [step_begun hb, step_begun hb, step1, if_neg (by omega), if_neg (by omega), if_pos rfl, step1, if_neg (by omega), if_neg (by omega), if_neg (by decide), if_pos rfl]
  exact ⟨rfl, rfl⟩

theorem lineEnd_two (h0 : S.at_ = 0) : lineEnd { S with at_ := 2 } = S := by
  unfold lineEnd
  rw [if_neg (by simp)]
  cases S; simp only at h0; subst h0; rfl

def fieldT (S : St) (l : List Int) : St := keep { S with at_ := 3, pending := true } l

theorem fieldT_at (S : St) (l : List Int) : (fieldT S l).at_ = 3 := by unfold fieldT; rw [keep_at]
theorem fieldT_begun (S : St) (l : List Int) : (fieldT S l).begun = S.begun := by unfold fieldT; rw [keep_begun]
theorem fieldT_pending (S : St) (l : List Int) : (fieldT S l).pending = true := by unfold fieldT; rw [keep_pending]
theorem keep_disp (S : St) (b : List Int) : (keep S b).disp = S.disp := by unfold keep; split <;> (try split) <;> rfl
theorem keep_fname (S : St) (b : List Int) : (keep S b).fname = S.fname := by unfold keep; split <;> (try split) <;> rfl
theorem keep_fdata (S : St) (b : List Int) : (keep S b).fdata = S.fdata := by unfold keep; split <;> (try split) <;> rfl
theorem lineEnd_disp (S : St) : (lineEnd S).disp = S.disp := by unfold lineEnd field; split <;> (try split) <;> (try split) <;> rfl
theorem lineEnd_too (S : St) : (lineEnd S).tooLong = S.tooLong := by unfold lineEnd field; split <;> (try split) <;> (try split) <;> rfl
theorem lineEnd_fname (S : St) : (lineEnd S).fname = S.fname := by unfold lineEnd field; split <;> (try split) <;> (try split) <;> rfl
theorem lineEnd_fdata (S : St) : (lineEnd S).fdata = S.fdata := by unfold lineEnd field; split <;> (try split) <;> (try split) <;> rfl
theorem fieldT_disp (S : St) (l : List Int) : (fieldT S l).disp = S.disp := by unfold fieldT; rw [keep_disp]

def zNext (S : St) (z : Int) (l : List Int) : Int := if reading S = true then z + l.length else z
def tooNext (S : St) (z : Int) (l : List Int) : Bool := S.tooLong || (reading S && decide (zNext S z l > 65536))

theorem fieldT_too (h : Ag S hd z nm dt en ed) (l : List Int) : (fieldT S l).tooLong = tooNext S z l := by
  unfold fieldT keep tooNext zNext
  by_cases hr : reading S = true
  · have hr' : reading { S with at_ := 3, pending := true } = true := hr
    have hs := h.gsz hr
    rw [if_pos (by rw [hr']; rfl), hr, if_pos rfl]
    have ht := (reading_off hr).2
    split
    · rename_i hm
      simp only [maxFirst] at hm
      have : z + (l.length : Int) > 65536 := by omega
      simp [this]
    · rename_i hm
      simp only [maxFirst] at hm
      have : ¬ (z + (l.length : Int) > 65536) := by omega
      simp [ht, this]
  · have hr' : ¬ reading { S with at_ := 3, pending := true } = true := hr
    rw [if_neg (by simpa using hr')]
    simp [Bool.eq_false_iff.2 hr]

theorem fieldT_core (h : Ag S hd z nm dt en ed) (l : List Int) : core (fieldT S l) = (S.disp, tooNext S z l, S.fname, S.fdata) := by
  unfold core
  rw [fieldT_too h, fieldT_disp]
  unfold fieldT
  rw [keep_fname, keep_fdata]

theorem zNext_bd (h : Ag S hd z nm dt en ed) (hI : Inv S) (l : List Int) (hl : l.length ≤ 1048576) : 0 ≤ zNext S z l ∧ zNext S z l ≤ 1114112 := by
  have h0 := h.z0
  have h1 := h.z1
  unfold zNext
  split
  · rename_i hr
    have := h.gsz hr
    have := hI.max
    omega
  · omega

theorem Ag.dead (h : Ag S hd z nm dt en ed) (hI : Inv S) (l : List Int) (hl : l.length ≤ 1048576) (hr : reading (fieldT S l) = false) : Ag (lineEnd (fieldT S l)) hd (zNext S z l) nm dt en ed := by
  have hz := zNext_bd h hI l hl
  have hr2 : reading (lineEnd (fieldT S l)) = false := by unfold reading at hr ⊢; rw [lineEnd_disp, lineEnd_too]; exact hr
  have no : ∀ {q : Prop}, reading (lineEnd (fieldT S l)) = true → q := fun e => by rw [hr2] at e; cases e
  refine ⟨fun e => no e, fun e => no e, fun e => no e, fun e => no e, fun e => ?_, fun e => ?_, h.bn, h.bd, hz.1, hz.2, h.ln, h.ld, h.le, h.lf⟩
  · rw [lineEnd_disp, fieldT_disp] at e
    rw [lineEnd_fname, lineEnd_fdata, fieldT, keep_fname, keep_fdata]
    exact h.on e
  · rw [lineEnd_disp, fieldT_disp] at e
    rw [lineEnd_fname, lineEnd_fdata, fieldT, keep_fname, keep_fdata]
    exact h.off e

theorem fieldT_read (hI : Inv S) (h0 : S.at_ = 0) (l : List Int) (hr : reading (fieldT S l) = true) : reading S = true ∧ S.size + l.length ≤ 65536 ∧ fieldT S l = { S with at_ := 3, pending := true, size := S.size + l.length, line := l } := by
  have hline : S.line = [] := hI.nil (by rw [h0]; decide)
  by_cases hS : reading S = true
  · have hS' : reading { S with at_ := 3, pending := true } = true := hS
    unfold fieldT keep at hr ⊢
    rw [if_pos (by rw [hS']; rfl)] at hr ⊢
    by_cases hm : maxFirst < S.size + l.length
    · rw [if_pos hm] at hr
      simp [reading] at hr
    · rw [if_neg hm]
      simp only [maxFirst] at hm
      exact ⟨hS, by omega, by simp [hline]⟩
  · have hS' : ¬ reading { S with at_ := 3, pending := true } = true := hS
    unfold fieldT keep at hr
    rw [if_neg (by simpa using hS')] at hr
    exact absurd hr hS'

theorem lineEnd_field (hI : Inv S) (h0 : S.at_ = 0) (l : List Int) (hr : reading (fieldT S l) = true) : lineEnd (fieldT S l) = field { S with at_ := 0, pending := true, size := S.size + l.length, line := l } := by
  have he := (fieldT_read hI h0 l hr).2.2
  unfold lineEnd
  rw [fieldT_at, hr, if_pos (by rfl), he]

theorem Ag.live (h : Ag S hd z nm dt en ed) (hI : Inv S) (h0 : S.at_ = 0) (l : List Int) (hr : reading (fieldT S l) = true) (hd' : Bool) (en' ed' : List Int)
    (k1 : hd' = (lineEnd (fieldT S l)).hasData) (k2 : en' = (lineEnd (fieldT S l)).name) (k3 : ed' = (lineEnd (fieldT S l)).data) (k4 : (lineEnd (fieldT S l)).size = S.size + l.length) (k5 : en'.length ≤ 65536) (k6 : ed'.length ≤ 65536) :
    Ag (lineEnd (fieldT S l)) hd' (zNext S z l) nm dt en' ed' := by
  obtain ⟨hS, hle, _⟩ := fieldT_read hI h0 l hr
  have hz : zNext S z l = ((S.size + l.length : Nat) : Int) := by unfold zNext; rw [if_pos hS, h.gsz hS]; omega
  refine ⟨fun _ => k1, fun _ => by rw [k4]; exact hz, fun _ => k2, fun _ => k3, fun e => ?_, fun e => ?_, h.bn, h.bd, by rw [hz]; omega, by rw [hz]; omega, h.ln, h.ld, k5, k6⟩
  · rw [lineEnd_disp, fieldT_disp] at e
    rw [lineEnd_fname, lineEnd_fdata, fieldT, keep_fname, keep_fdata]
    exact h.on e
  · rw [lineEnd_disp, fieldT_disp] at e
    rw [lineEnd_fname, lineEnd_fdata, fieldT, keep_fname, keep_fdata]
    exact h.off e

theorem Ag.event (h : Ag S hd z nm dt en ed) (hI : Inv S) (h0 : S.at_ = 0) (l : List Int) (hr : reading (fieldT S l) = true) (hf : fieldName l = sEvent) : Ag (lineEnd (fieldT S l)) hd (zNext S z l) nm dt (fieldValue l) ed := by
  obtain ⟨hS, hle, _⟩ := fieldT_read hI h0 l hr
  have e : lineEnd (fieldT S l) = { S with at_ := 0, pending := true, size := S.size + l.length, line := [], name := fieldValue l } := by
    rw [lineEnd_field hI h0 l hr, field, if_pos hf]
  have := name_len l
  exact h.live hI h0 l hr hd (fieldValue l) ed (by rw [e]; exact h.ghd hS) (by rw [e]) (by rw [e]; exact h.ged hS) (by rw [e]) (by omega) h.lf

theorem Ag.data (h : Ag S hd z nm dt en ed) (hI : Inv S) (h0 : S.at_ = 0) (l : List Int) (hr : reading (fieldT S l) = true) (hf1 : fieldName l ≠ sEvent) (hf : fieldName l = sData) : Ag (lineEnd (fieldT S l)) true (zNext S z l) nm dt en (ed ++ fieldValue l ++ [10]) := by
  obtain ⟨hS, hle, _⟩ := fieldT_read hI h0 l hr
  have e : lineEnd (fieldT S l) = { S with at_ := 0, pending := true, size := S.size + l.length, line := [], data := S.data ++ fieldValue l ++ [10], hasData := true } := by
    rw [lineEnd_field hI h0 l hr, field, if_neg hf1, if_pos hf]
  have h1 := name_len l
  rw [hf] at h1
  have h2 := hI.sz
  have h3 : sData.length = 4 := rfl
  have e2 := h.ged hS
  exact h.live hI h0 l hr true en _ (by rw [e]) (by rw [e]; exact h.gen hS) (by rw [e, e2]) (by rw [e]) h.le (by rw [e2]; simp only [List.length_append, List.length_cons, List.length_nil]; omega)

theorem Ag.other (h : Ag S hd z nm dt en ed) (hI : Inv S) (h0 : S.at_ = 0) (l : List Int) (hr : reading (fieldT S l) = true) (hf1 : fieldName l ≠ sEvent) (hf : fieldName l ≠ sData) : Ag (lineEnd (fieldT S l)) hd (zNext S z l) nm dt en ed := by
  obtain ⟨hS, hle, _⟩ := fieldT_read hI h0 l hr
  have e : lineEnd (fieldT S l) = { S with at_ := 0, pending := true, size := S.size + l.length, line := [] } := by
    rw [lineEnd_field hI h0 l hr, field, if_neg hf1, if_neg hf]
  exact h.live hI h0 l hr hd en ed (by rw [e]; exact h.ghd hS) (by rw [e]; exact h.gen hS) (by rw [e]; exact h.ged hS) (by rw [e]) h.le h.lf
end M
end Go.Proofs.Qxb6602599aDoor
