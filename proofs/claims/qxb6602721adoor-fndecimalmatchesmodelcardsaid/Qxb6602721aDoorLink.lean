import Derived.Test.Qxb6602721aDoorEqual
namespace Go.Proofs.Qxb6602721aDoor
open Go

theorem noDot_free {l : List UInt8} (h : 46 ∉ l) : noDot l = l := by
  unfold noDot
  rw [List.filter_eq_self]
  intro x hx
  have : x ≠ 46 := fun e => h (e ▸ hx)
  simpa using this

theorem all_free {l : List UInt8} (h : l.all isD = true) : 46 ∉ l := fun hm => by
  have := List.all_eq_true.1 h 46 hm
  rw [isD_dot] at this
  cases this

theorem bad_digits {WH PL : List UInt8} (h0 : WH ≠ []) (h : (WH ++ PL).all isD = true) : badB WH PL = decide (15 < (Lib.trimB (WH ++ PL) 48).length) := by
  unfold badB
  have := (trimS_digs (WH ++ PL)).2 h
  simp [h0, this]

theorem bad_not {WH PL : List UInt8} (h : WH = [] ∨ (WH ++ PL).all isD = false) : badB WH PL = true := by
  unfold badB
  apply decide_eq_true
  rcases h with h | h
  · exact .inl h
  · right; left
    intro e
    have := (trimS_digs (WH ++ PL)).1 e
    rw [h] at this
    cases this

structure Good (f WH PL : List UInt8) (PT : Bool) : Prop where
  sh : shape f = (true, neg f, st f, WH.length, PT, PL.length)
  ne : WH ≠ []
  nd : noDot (f.drop (st f)) = WH ++ PL
  bad : badB WH PL = decide (15 < (Lib.trimB (WH ++ PL) 48).length)
  hd : f.getD (st f) 0 = WH.getD 0 0
  len : st f + WH.length + PL.length ≤ f.length

theorem link (f : List UInt8) (hs : st f ≤ f.length) : ∃ WH PL PT, Lib.cut (f.drop (st f)) [46] = (WH, PL, PT) ∧ WH.length + PL.length ≤ f.length ∧ (Good f WH PL PT ∨ ((shape f).1 = false ∧ badB WH PL = true)) := by
  obtain ⟨l, hl⟩ : ∃ l, l = f.drop (st f) := ⟨_, rfl⟩
  have hlen : l.length = f.length - st f := by rw [hl, List.length_drop]
  have hg : f.getD (st f) 0 = l.getD 0 0 := by rw [hl, getD_drop8]; rfl
  rw [← hl]
  rcases cut_dot l with ⟨h46, hc⟩ | ⟨a, b, hab, h46, hc⟩
  · refine ⟨l, [], false, hc, by simp; omega, ?_⟩
    rcases shape_none hl hs h46 with ⟨h1, h2, h3⟩ | ⟨h1, h2⟩
    · left
      exact ⟨h3, h1, by rw [← hl, List.append_nil]; exact noDot_free h46, bad_digits h1 (by rw [List.append_nil]; exact h2), hg, by simp; omega⟩
    · exact .inr ⟨h2, bad_not (by rw [List.append_nil]; exact h1)⟩
  · have hl2 : l.length = a.length + b.length + 1 := by rw [hab]; simp; omega
    refine ⟨a, b, true, hc, by omega, ?_⟩
    rcases shape_some hl hs hab h46 with ⟨h1, h2, h3, h4⟩ | ⟨h1, h2⟩
    · left
      have hall : (a ++ b).all isD = true := by rw [List.all_append, h2, h3]; rfl
      refine ⟨h4, h1, ?_, bad_digits h1 hall, ?_, by omega⟩
      · rw [← hl, hab]
        unfold noDot
        rw [List.filter_append, List.filter_cons_of_neg (by simp)]
        have e1 := noDot_free h46
        have e2 := noDot_free (all_free h3)
        unfold noDot at e1 e2
        rw [e1, e2]
      · rw [hg, hab]
        cases a with
        | nil => exact absurd rfl h1
        | cons x t => rfl
    · refine .inr ⟨h2, bad_not ?_⟩
      rcases h1 with h | h | h
      · exact .inl h
      · right; rw [List.all_append, h]; rfl
      · right; rw [List.all_append, h]; simp
end Go.Proofs.Qxb6602721aDoor
