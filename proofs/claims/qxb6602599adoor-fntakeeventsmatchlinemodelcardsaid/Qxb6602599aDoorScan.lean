import Derived.Test.Qxb6602599aDoorAny2
namespace Go.Proofs.Qxb6602599aDoor
open Go

namespace M

structure Inv (S : St) : Prop where
  at4 : S.at_ = 0 ∨ S.at_ = 1 ∨ S.at_ = 2 ∨ S.at_ = 3
  bom2 : S.bom ≤ 2
  sz : S.line.length + S.data.length ≤ S.size
  max : S.size ≤ 65536
  bl : IsB S.line
  bn : IsB S.name
  bd : IsB S.data
  hd : reading S = true → S.hasData = true → S.data ≠ []
  ln : S.line ≠ [] → S.at_ = 3 ∧ reading S = true
  nb : S.begun = false → S.at_ ≠ 3

theorem Inv.line {S : St} (h : Inv S) : S.line.length ≤ 65536 := by have := h.sz; have := h.max; omega
theorem Inv.data {S : St} (h : Inv S) : S.data.length ≤ 65536 := by have := h.sz; have := h.max; omega

theorem isB_nil : IsB [] := fun _ h => by cases h
theorem isB_app {a b : List Int} (ha : IsB a) (hb : IsB b) : IsB (a ++ b) := fun x hx => by
  rcases List.mem_append.1 hx with h | h
  · exact ha x h
  · exact hb x h

theorem inv_init : Inv init := ⟨.inl rfl, by decide, by decide, by decide, isB_nil, isB_nil, isB_nil, (fun _ h => by cases h), (fun h => absurd rfl h), fun _ => by decide⟩

theorem inv_keep {S : St} (h : Inv S) {b : List Int} (hb : IsB b) : Inv (keep S b) := by
  unfold keep
  split
  · rename_i hk
    split
    · exact ⟨h.at4, h.bom2, by simp, by simp, isB_nil, isB_nil, isB_nil, (fun hr _ => by simp [reading] at hr), (fun h => absurd rfl h), h.nb⟩
    · rename_i hm
      have h1 := h.sz
      refine ⟨h.at4, h.bom2, ?_, ?_, isB_app h.bl hb, h.bn, h.bd, h.hd, (fun _ => by have := hk; simp only [Bool.and_eq_true, beq_iff_eq] at this; exact this), h.nb⟩
      · simp only [List.length_append]; omega
      · simp only [maxFirst] at hm ⊢; omega
  · exact h

theorem Inv.nil {S : St} (h : Inv S) (h3 : S.at_ ≠ 3) : S.line = [] := by
  cases hl : S.line with
  | nil => rfl
  | cons x r => exact absurd (h.ln (by rw [hl]; simp)).1 h3
theorem inv_at {S : St} (h : Inv S) (h3 : S.at_ ≠ 3) {a : Int} (ha : a = 0 ∨ a = 1 ∨ a = 2) : Inv { S with at_ := a } :=
  ⟨by rcases ha with e | e | e <;> simp [e], h.bom2, h.sz, h.max, h.bl, h.bn, h.bd, h.hd, (fun hl => absurd (h.nil h3) hl), fun _ => by simp only; omega⟩
theorem inv_field {S : St} (h : Inv S) (h3 : S.at_ ≠ 3) (hg : S.begun = true) : Inv { S with at_ := 3, pending := true } :=
  ⟨.inr (.inr (.inr rfl)), h.bom2, h.sz, h.max, h.bl, h.bn, h.bd, h.hd, (fun hl => absurd (h.nil h3) hl), fun e => by rw [hg] at e; cases e⟩
theorem inv_begun {S : St} (h : Inv S) (n : Nat) (hn : n ≤ 2) : Inv { S with begun := true, bom := n } := ⟨h.at4, hn, h.sz, h.max, h.bl, h.bn, h.bd, h.hd, h.ln, fun e => by cases e⟩
theorem inv_bom {S : St} (h : Inv S) (n : Nat) (hn : n ≤ 2) : Inv { S with bom := n } := ⟨h.at4, hn, h.sz, h.max, h.bl, h.bn, h.bd, h.hd, h.ln, h.nb⟩

theorem name_len (l : List Int) : (fieldValue l).length + (fieldName l).length ≤ l.length := by
  have h1 := unSpace_le (fieldRest l)
  have h2 : (fieldRest l).length + (fieldName l).length ≤ l.length := by
    unfold fieldRest fieldName
    have := congrArg List.length (List.takeWhile_append_dropWhile (p := fun c : Int => !(c == 58)) (l := l))
    simp only [List.length_append] at this
    simp only [List.length_drop]; omega
  unfold fieldValue; omega

theorem isB_value {l : List Int} (h : IsB l) : IsB (fieldValue l) := h.rest.unSpace

theorem Inv.dead {S : St} (h : Inv S) (hk : ¬ (S.at_ == 3 && reading S) = true) : S.line = [] := by
  cases hl : S.line with
  | nil => rfl
  | cons x r =>
    have := h.ln (by rw [hl]; simp)
    exact absurd (by simpa using this) hk

theorem inv_lineEnd {S : St} (h : Inv S) : Inv (lineEnd S) := by
  have hs := h.sz
  unfold lineEnd
  split
  · unfold field
    split
    · rename_i he
      refine ⟨.inl rfl, h.bom2, ?_, h.max, isB_nil, isB_value h.bl, h.bd, h.hd, (fun hl => absurd rfl hl), fun _ => by simp⟩
      simp only [List.length_nil]; omega
    · split
      · rename_i he hd
        have h1 := name_len S.line
        simp only at hd
        rw [hd] at h1
        refine ⟨.inl rfl, h.bom2, ?_, h.max, isB_nil, h.bn, isB_app (isB_app h.bd (isB_value h.bl)) (fun x hx => by simp at hx; omega), (fun _ _ e => by simp at e), (fun hl => absurd rfl hl), fun _ => by simp⟩
        simp only [List.length_append, List.length_nil, List.length_cons, sData] at h1 ⊢; omega
      · refine ⟨.inl rfl, h.bom2, ?_, h.max, isB_nil, h.bn, h.bd, h.hd, (fun hl => absurd rfl hl), fun _ => by simp⟩
        simp only [List.length_nil]; omega
  · rename_i hk
    exact ⟨.inl rfl, h.bom2, h.sz, h.max, h.bl, h.bn, h.bd, h.hd, (fun hl => absurd (h.dead hk) hl), fun _ => by simp⟩

theorem inv_empty {S : St} (h : Inv S) (h3 : S.at_ ≠ 3) : Inv (emptyLine S) := by
  have hl := h.nil h3
  unfold emptyLine
  split
  · exact ⟨h.at4, h.bom2, by simp, by simp, isB_nil, isB_nil, isB_nil, (fun hr _ => by simp [reading] at hr), (fun hl => absurd rfl hl), h.nb⟩
  · exact ⟨h.at4, h.bom2, by simp [hl], by simp, h.bl, isB_nil, isB_nil, (fun _ hh => by simp at hh), h.ln, h.nb⟩

theorem isB_pre (n : Nat) : IsB (bomPre n) := fun x hx => by
  have := List.mem_of_mem_take hx
  simp at this; omega

theorem bomRun_bd : ∀ (xs : List Int) (bom : Nat), bom ≤ 3 → bom + bomRun bom xs ≤ 3 := by
  intro xs
  induction xs with
  | nil => intro b h; simpa [bomRun] using h
  | cons c r ih =>
    intro b h
    unfold bomRun
    split
    · rename_i h1
      have := ih (b + 1) (by omega); omega
    · omega

theorem bomRun_le : ∀ (xs : List Int) (bom : Nat), bomRun bom xs ≤ xs.length := by
  intro xs
  induction xs with
  | nil => intro b; simp [bomRun]
  | cons c r ih =>
    intro b
    unfold bomRun
    split
    · have := ih (b + 1); simp; omega
    · omega

theorem inv_skip {S : St} (h : Inv S) (hg : S.begun = false) (xs : List Int) : Inv (skip S xs) := by
  have hb := bomRun_bd xs S.bom (by have := h.bom2; omega)
  unfold skip
  split
  · exact inv_begun h 0 (by omega)
  · rename_i h3
    split
    · unfold begin_
      split
      · rename_i h0
        have h1 : Inv { S with bom := S.bom + bomRun S.bom xs, begun := true } := inv_begun h _ (by omega)
        have h2 := inv_keep (inv_field h1 (h.nb hg) rfl) (isB_pre (S.bom + bomRun S.bom xs))
        exact inv_bom h2 0 (by omega)
      · exact inv_begun h _ (by omega)
    · exact inv_bom h _ (by omega)

def shift (n : Nat) (q : St × Nat × Bool) : St × Nat × Bool := (q.1, n + q.2.1, q.2.2)

theorem shift_zero (q : St × Nat × Bool) : shift 0 q = q := by simp [shift]
theorem shift_shift (a b : Nat) (q : St × Nat × Bool) : shift a (shift b q) = shift (a + b) q := by simp [shift, Nat.add_assoc]

theorem scan_quiet {S : St} {c : Int} {r : List Int} (h : (step S c).2 = false) : scan S (c :: r) = shift 1 (scan (step S c).1 r) := by
  simp [scan, h, shift, Nat.add_comm]
theorem scan_end {S : St} {c : Int} {r : List Int} (h : (step S c).2 = true) : scan S (c :: r) = ((step S c).1, 1, true) := by
  simp [scan, h]
theorem scan_same {S S' : St} {c : Int} {r : List Int} (h : step S c = step S' c) : scan S (c :: r) = scan S' (c :: r) := by
  simp [scan, h]

theorem keep_begun (S : St) (b : List Int) : (keep S b).begun = S.begun := by unfold keep; split <;> (try split) <;> rfl
theorem keep_at (S : St) (b : List Int) : (keep S b).at_ = S.at_ := by unfold keep; split <;> (try split) <;> rfl
theorem keep_pending (S : St) (b : List Int) : (keep S b).pending = S.pending := by unfold keep; split <;> (try split) <;> rfl
theorem lineEnd_begun (S : St) : (lineEnd S).begun = S.begun := by unfold lineEnd field; split <;> (try split) <;> (try split) <;> rfl
theorem lineEnd_at (S : St) : (lineEnd S).at_ = 0 := by unfold lineEnd field; split <;> (try split) <;> (try split) <;> rfl
theorem lineEnd_pending (S : St) : (lineEnd S).pending = S.pending := by unfold lineEnd field; split <;> (try split) <;> (try split) <;> rfl
theorem empty_begun (S : St) : (emptyLine S).begun = S.begun := by unfold emptyLine; split <;> rfl
theorem empty_at (S : St) : (emptyLine S).at_ = S.at_ := by unfold emptyLine; split <;> rfl
theorem empty_pending (S : St) : (emptyLine S).pending = false := by unfold emptyLine; split <;> rfl

theorem keep_nil (S : St) (h : S.size ≤ 65536) : keep S [] = S := by
  unfold keep
  split
  · rw [if_neg (by simp [maxFirst]; omega)]; simp
  · rfl

theorem keep_keep (S : St) (a b : List Int) : keep (keep S a) b = keep S (a ++ b) := by
  by_cases hk : (S.at_ == 3 && reading S) = true
  · by_cases ha : maxFirst < S.size + a.length
    · have e1 : keep S a = { S with tooLong := true, size := 0, line := [], name := [], data := [] } := by rw [keep, if_pos hk, if_pos ha]
      have e2 : keep S (a ++ b) = { S with tooLong := true, size := 0, line := [], name := [], data := [] } := by rw [keep, if_pos hk, if_pos (by simp; omega)]
      rw [e1, e2, keep, if_neg (by simp [reading])]
    · have e1 : keep S a = { S with size := S.size + a.length, line := S.line ++ a } := by rw [keep, if_pos hk, if_neg ha]
      have hk2 : (({ S with size := S.size + a.length, line := S.line ++ a } : St).at_ == 3 && reading { S with size := S.size + a.length, line := S.line ++ a }) = true := hk
      rw [e1, keep, if_pos hk2, keep, if_pos hk]
      simp only [List.length_append, Nat.add_assoc, List.append_assoc]
  · rw [keep, if_neg (by rw [keep, if_neg hk]; exact hk), keep, if_neg hk, keep, if_neg hk]

theorem step_begun {S : St} (h : S.begun = true) (c : Int) : step S c = step1 S c := by rw [step, if_pos h]

theorem scan_line : ∀ (l r : List Int) (S : St), S.begun = true → (S.at_ = 2 ∨ S.at_ = 3) → S.size ≤ 65536 → (∀ x ∈ l, eol x = false) → scan S (l ++ r) = shift l.length (scan (keep S l) r)
  | [], r, S, _, _, h3, _ => by rw [List.nil_append, keep_nil S h3]; exact (shift_zero _).symm
  | x :: l, r, S, h1, h2, h3, h4 => by
    have hx := h4 x (by simp)
    simp only [eol, Bool.or_eq_false_iff, beq_eq_false_iff_ne] at hx
    have e : step S x = (keep S [x], false) := by
      rw [step_begun h1, step1, if_neg (by omega), if_neg (by omega), if_neg hx.1, if_neg hx.2]
    have hsz : (keep S [x]).size ≤ 65536 := by
      unfold keep
      split
      · split
        · simp
        · rename_i hm; simp only [maxFirst] at hm ⊢; omega
      · exact h3
    rw [List.cons_append, scan_quiet (by rw [e]), e]
    have ih := scan_line l r (keep S [x]) (by rw [keep_begun]; exact h1) (by rw [keep_at]; exact h2) hsz (fun y hy => h4 y (List.mem_cons_of_mem _ hy))
    rw [ih, keep_keep, shift_shift, List.singleton_append, List.length_cons, Nat.add_comm]

theorem take_brk (xs : List Int) : ∀ x ∈ xs.take (brk xs), eol x = false := by
  have : xs.take (brk xs) = xs.takeWhile fun c => !eol c := by
    have h := List.takeWhile_prefix (p := fun c => !eol c) (l := xs)
    exact (List.prefix_iff_eq_take.1 h).symm
  intro x hx
  rw [this] at hx
  have := List.all_eq_true.1 (List.all_takeWhile (p := fun c => !eol c) (l := xs)) x hx
  simpa using this

theorem scan_in_all {S : St} {xs : List Int} (h1 : S.begun = true) (h2 : S.at_ = 2 ∨ S.at_ = 3) (h3 : S.size ≤ 65536) (hb : ¬ brk xs < xs.length) : scan S xs = (keep S xs, xs.length, false) := by
  have he : xs.take (brk xs) = xs := List.take_of_length_le (by omega)
  have h := scan_line xs [] S h1 h2 h3 (fun x hx => take_brk xs x (by rw [he]; exact hx))
  rw [List.append_nil] at h
  rw [h]; simp [scan, shift]

theorem scan_in_line {S : St} {xs : List Int} (h1 : S.begun = true) (h2 : S.at_ = 2 ∨ S.at_ = 3) (h3 : S.size ≤ 65536) (hb : brk xs < xs.length) :
    scan S xs = shift (brk xs + 1) (scan (if xs.getD (brk xs) 0 = 13 then { lineEnd (keep S (xs.take (brk xs))) with at_ := 1 } else lineEnd (keep S (xs.take (brk xs)))) (xs.drop (brk xs + 1))) := by
  have hsplit : xs = xs.take (brk xs) ++ xs[brk xs] :: xs.drop (brk xs + 1) := by
    rw [← List.drop_eq_getElem_cons hb, List.take_append_drop]
  have hg : xs.getD (brk xs) 0 = xs[brk xs] := by simp [List.getD, hb]
  have he : eol xs[brk xs] = true := by
    cases hc : eol xs[brk xs] with
    | true => rfl
    | false =>
      have := brk_step (Nat.le_refl (brk xs)) hb (by rw [hg]; exact hc)
      omega
  have h := scan_line (xs.take (brk xs)) (xs[brk xs] :: xs.drop (brk xs + 1)) S h1 h2 h3 (take_brk xs)
  rw [← hsplit] at h
  have hlen : (xs.take (brk xs)).length = brk xs := by simp; omega
  rw [h, hlen, hg]
  have hkb : (keep S (xs.take (brk xs))).begun = true := by rw [keep_begun]; exact h1
  have hka := keep_at S (xs.take (brk xs))
  by_cases h13 : xs[brk xs] = 13
  · have e : step (keep S (xs.take (brk xs))) xs[brk xs] = ({ lineEnd (keep S (xs.take (brk xs))) with at_ := 1 }, false) := by
      rw [step_begun hkb, step1, if_neg (by omega), if_neg (by omega), if_pos h13]
    rw [scan_quiet (by rw [e]), e, if_pos h13, shift_shift]
  · have h10 : xs[brk xs] = 10 := by
      simp only [eol, Bool.or_eq_true, beq_iff_eq] at he; omega
    have e : step (keep S (xs.take (brk xs))) xs[brk xs] = (lineEnd (keep S (xs.take (brk xs))), false) := by
      rw [step_begun hkb, step1, if_neg (by omega), if_neg (by omega), if_neg h13, if_pos h10]
    rw [scan_quiet (by rw [e]), e, if_neg h13, shift_shift]

theorem scan_cr_lf {S : St} {r : List Int} (h1 : S.begun = true) (h2 : S.at_ = 1) : scan S (10 :: r) = shift 1 (scan { S with at_ := 0 } r) := by
  have e : step S 10 = ({ S with at_ := 0 }, false) := by rw [step_begun h1, step1, if_pos h2, if_pos rfl]
  rw [scan_quiet (by rw [e]), e]
theorem scan_cr {S : St} {c : Int} {r : List Int} (h1 : S.begun = true) (h2 : S.at_ = 1) (hc : c ≠ 10) : scan S (c :: r) = scan { S with at_ := 0 } (c :: r) := by
  apply scan_same
  have h1' : ({ S with at_ := 0 } : St).begun = true := h1
  rw [step_begun h1, step_begun h1', step1, if_pos h2, if_neg hc, step1, if_neg (by simp), if_pos rfl]
theorem scan_start_colon {S : St} {r : List Int} (h1 : S.begun = true) (h2 : S.at_ = 0) : scan S (58 :: r) = scan { S with at_ := 2 } (58 :: r) := by
  apply scan_same
  have h1' : ({ S with at_ := 2 } : St).begun = true := h1
  rw [step_begun h1, step_begun h1', step1, if_neg (by omega), if_pos h2, step1, if_neg (by simp), if_neg (by simp), if_neg (by decide), if_neg (by decide)]
  unfold stepStart
  rw [if_neg (by decide), if_neg (by decide), if_pos rfl, keep, if_neg (by simp)]
theorem scan_start_field {S : St} {c : Int} {r : List Int} (h1 : S.begun = true) (h2 : S.at_ = 0) (hc : eol c = false) (h58 : c ≠ 58) : scan S (c :: r) = scan { S with at_ := 3, pending := true } (c :: r) := by
  apply scan_same
  have h1' : ({ S with at_ := 3, pending := true } : St).begun = true := h1
  simp only [eol, Bool.or_eq_false_iff, beq_eq_false_iff_ne] at hc
  rw [step_begun h1, step_begun h1', step1, if_neg (by omega), if_pos h2, step1, if_neg (by simp), if_neg (by simp), if_neg hc.1, if_neg hc.2]
  unfold stepStart
  rw [if_neg hc.1, if_neg hc.2, if_neg h58]
theorem step_empty {S : St} {c : Int} (h1 : S.begun = true) (h2 : S.at_ = 0) (hc : eol c = true) : step S c = (emptyLine (if c = 13 then { S with at_ := 1 } else S), S.pending) := by
  simp only [eol, Bool.or_eq_true, beq_iff_eq] at hc
  rw [step_begun h1, step1, if_neg (by omega), if_pos h2]
  unfold stepStart
  by_cases h13 : c = 13
  · rw [if_pos h13, if_pos h13]
  · rw [if_neg h13, if_neg h13, if_pos (by omega)]
theorem scan_empty_end {S : St} {c : Int} {r : List Int} (h1 : S.begun = true) (h2 : S.at_ = 0) (hc : eol c = true) (hp : S.pending = true) : scan S (c :: r) = (emptyLine (if c = 13 then { S with at_ := 1 } else S), 1, true) := by
  rw [scan_end (by rw [step_empty h1 h2 hc]; exact hp), step_empty h1 h2 hc]
theorem scan_empty_on {S : St} {c : Int} {r : List Int} (h1 : S.begun = true) (h2 : S.at_ = 0) (hc : eol c = true) (hp : S.pending = false) : scan S (c :: r) = shift 1 (scan (emptyLine (if c = 13 then { S with at_ := 1 } else S)) r) := by
  rw [scan_quiet (by rw [step_empty h1 h2 hc]; exact hp), step_empty h1 h2 hc]

theorem begin_bom (S : St) (h : 0 < S.bom) : begin_ S = { keep { S with begun := true, at_ := 3, pending := true } (bomPre S.bom) with bom := 0 } := by rw [begin_, if_pos h]
theorem begin_begun (S : St) : (begin_ S).begun = true := by
  unfold begin_
  split
  · simp only [keep_begun]
  · rfl

theorem scan_skip : ∀ (xs : List Int) (S : St), S.begun = false → S.bom ≤ 2 → scan S xs = shift (bomRun S.bom xs) (scan (skip S xs) (xs.drop (bomRun S.bom xs)))
  | [], S, h1, h2 => by
    have e : skip S [] = S := by simp [skip, bomRun]; omega
    rw [e]; simp [bomRun, shift, scan]
  | c :: r, S, h1, h2 => by
    by_cases hc : c = bomAt S.bom
    · have hr : bomRun S.bom (c :: r) = bomRun (S.bom + 1) r + 1 := by rw [bomRun, if_pos ⟨by omega, hc⟩]
      by_cases h3 : S.bom + 1 = 3
      · have e : step S c = ({ S with begun := true, bom := 0 }, false) := by rw [step, if_neg (by simp [h1]), if_pos hc, if_pos h3]
        have hr0 : bomRun (S.bom + 1) r = 0 := by
          rw [h3]
          cases r with
          | nil => rfl
          | cons x q => simp [bomRun]
        have es : skip S (c :: r) = { S with begun := true, bom := 0 } := by rw [skip, hr, hr0, if_pos (by omega)]
        rw [scan_quiet (by rw [e]), e, es, hr, hr0]
        rfl
      · have e : step S c = ({ S with bom := S.bom + 1 }, false) := by rw [step, if_neg (by simp [h1]), if_pos hc, if_neg h3]
        have ih := scan_skip r { S with bom := S.bom + 1 } h1 (by simp only; omega)
        simp only at ih
        have es : skip { S with bom := S.bom + 1 } r = skip S (c :: r) := by
          unfold skip
          simp only [hr, List.length_cons]
          have e1 : S.bom + 1 + bomRun (S.bom + 1) r = S.bom + (bomRun (S.bom + 1) r + 1) := by omega
          rw [e1]
          by_cases hl : bomRun (S.bom + 1) r < r.length
          · rw [if_pos hl, if_pos (show bomRun (S.bom + 1) r + 1 < r.length + 1 by omega)]
          · rw [if_neg hl, if_neg (show ¬ bomRun (S.bom + 1) r + 1 < r.length + 1 by omega)]
        rw [scan_quiet (by rw [e]), e, ih, es, hr, shift_shift, List.drop_succ_cons, Nat.add_comm]
    · have hr : bomRun S.bom (c :: r) = 0 := by rw [bomRun, if_neg (fun h => hc h.2)]
      have e : step S c = step1 (begin_ S) c := by rw [step, if_neg (by simp [h1]), if_neg hc]
      have es : skip S (c :: r) = begin_ S := by
        rw [skip, hr, if_neg (by omega), if_pos (by simp)]
        rfl
      rw [hr, es, shift_zero, List.drop_zero]
      apply scan_same
      rw [e, step_begun (begin_begun S)]
end M
end Go.Proofs.Qxb6602599aDoor
