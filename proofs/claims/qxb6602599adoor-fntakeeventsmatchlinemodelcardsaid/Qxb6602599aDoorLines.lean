import Derived.Test.Qxb6602599aDoorTwo
namespace Go.Proofs.Qxb6602599aDoor
open Go
namespace M

def core (S : St) : Bool × Bool × List UInt8 × List UInt8 := (S.disp, S.tooLong, S.fname, S.fdata)

theorem evs_cons (S : St) (c : Int) (r : List Int) (k : Int) : evs S (c :: r) k = ((if (step S c).2 = true then [k + 1] else []) ++ (evs (step S c).1 r (k + 1)).1, (evs (step S c).1 r (k + 1)).2) := by
  rw [evs]
  split <;> simp

theorem evs_quiet {S T : St} {c : Int} (h : step S c = (T, false)) (r : List Int) (k : Int) : evs S (c :: r) k = evs T r (k + 1) := by
  rw [evs_cons, h]; simp

theorem evs_line : ∀ (l : List Int) (S : St) (k : Int), S.begun = true → (S.at_ = 2 ∨ S.at_ = 3) → S.size ≤ 65536 → (∀ x ∈ l, eol x = false) → evs S l k = ([], keep S l)
  | [], S, _, _, _, h3, _ => by rw [keep_nil S h3]; rfl
  | c :: r, S, k, h1, h2, h3, hl => by
    have hc := hl c (by simp)
    have hc' : c ≠ 13 ∧ c ≠ 10 := by simpa [eol] using hc
    have hs : step S c = (keep S [c], false) := by
      rw [step_begun h1, step1, if_neg (by omega), if_neg (by omega), if_neg hc'.1, if_neg hc'.2]
    have h3' : (keep S [c]).size ≤ 65536 := by
      unfold keep
      split
      · split
        · simp
        · rename_i hm; simp only [maxFirst] at hm ⊢; omega
      · exact h3
    rw [evs_quiet hs, evs_line r (keep S [c]) (k + 1) (by rw [keep_begun]; exact h1) (by rw [keep_at]; exact h2) h3' (fun x hx => hl x (List.mem_cons_of_mem _ hx)), keep_keep]
    rfl

theorem evs_field {S : St} {c : Int} {r : List Int} {k : Int} (h1 : S.begun = true) (h2 : S.at_ = 0) (h3 : S.size ≤ 65536) (hl : ∀ x ∈ c :: r, eol x = false) (h58 : c ≠ 58) :
    evs S (c :: r) k = ([], keep { S with at_ := 3, pending := true } (c :: r)) := by
  have hc' : c ≠ 13 ∧ c ≠ 10 := by simpa [eol] using hl c (by simp)
  have hs : step S c = step { S with at_ := 3, pending := true } c := by
    rw [step_begun h1, step_begun (S := { S with at_ := 3, pending := true }) h1]
    rw [step1, if_neg (by omega), if_pos h2, stepStart, if_neg hc'.1, if_neg hc'.2, if_neg h58]
    rw [step1, if_neg (by simp), if_neg (by simp), if_neg hc'.1, if_neg hc'.2]
  rw [evs_cons, hs, ← evs_cons]
  exact evs_line _ _ _ h1 (.inr rfl) h3 hl

theorem keep_two (S : St) (h : S.at_ = 2) (l : List Int) : keep S l = S := by
  unfold keep
  rw [if_neg (by simp [h])]

theorem evs_colon {S : St} {r : List Int} {k : Int} (h1 : S.begun = true) (h2 : S.at_ = 0) (h3 : S.size ≤ 65536) (hl : ∀ x ∈ (58 : Int) :: r, eol x = false) : evs S (58 :: r) k = ([], { S with at_ := 2 }) := by
  have hs : step S 58 = ({ S with at_ := 2 }, false) := by
    rw [step_begun h1, step1, if_neg (by omega), if_pos h2, stepStart, if_neg (by decide), if_neg (by decide), if_pos rfl]
  have := evs_line r { S with at_ := 2 } (k + 1) h1 (.inl rfl) h3 (fun x hx => hl x (List.mem_cons_of_mem _ hx))
  rw [keep_two _ rfl] at this
  rw [evs_quiet hs, this]

structure LRel (xs : List Int) (off : Nat) (S : St) (ec : List Int) : Prop where
  ev : (evs init xs 0).1 = ec ++ (evs S (xs.drop off) off).1
  st : core (evs init xs 0).2 = core (evs S (xs.drop off) off).2
  at0 : S.at_ = 0
  begun : S.begun = true
  inv : Inv S

theorem evs_norm {S : St} (h1 : S.begun = true) (h2 : S.at_ = 0) : ∀ (r : List Int) (k : Int), r.head? ≠ some 10 → (evs { S with at_ := 1 } r k).1 = (evs S r k).1 ∧ core (evs { S with at_ := 1 } r k).2 = core (evs S r k).2
  | [], _, _ => ⟨rfl, rfl⟩
  | c :: r, k, hc => by
    have hc' : c ≠ 10 := by simpa using hc
    have hs : step { S with at_ := 1 } c = step S c := by
      rw [step_begun h1, step_begun (S := { S with at_ := 1 }) h1, step1, if_pos rfl, if_neg hc', step1, if_neg (by omega), if_pos h2]
      have e : ({ S with at_ := 0 } : St) = S := by cases S; simp only at h2; subst h2; rfl
      show stepStart { S with at_ := 0 } c = _
      rw [e]
    rw [evs_cons, hs, ← evs_cons]
    exact ⟨rfl, rfl⟩

theorem LRel.eol {xs : List Int} {off : Nat} {S : St} {ec : List Int} (h : LRel xs off S ec) {l : List Int} {c : Int} {r : List Int} (hd : xs.drop off = l ++ c :: r) {T U : St} {f : Bool} (hl : evs S l off = ([], T))
    (h13 : step T 13 = ({ U with at_ := 1 }, f)) (h10 : step T 10 = (U, f)) (hc : c = 13 ∨ c = 10) (hU : U.at_ = 0) (hb : U.begun = true) (hI : Inv U) (next : Nat)
    (hn : next = off + l.length + 1 ∧ ¬ (c = 13 ∧ r.head? = some 10) ∨ next = off + l.length + 2 ∧ c = 13 ∧ r.head? = some 10) : LRel xs next U (ec ++ if f = true then [((off + l.length + 1 : Nat) : Int)] else []) := by
  have hkey : (evs S (xs.drop off) off).1 = (if f = true then [((off + l.length + 1 : Nat) : Int)] else []) ++ (evs U (xs.drop next) next).1 ∧ core (evs S (xs.drop off) off).2 = core (evs U (xs.drop next) next).2 := by
    rw [hd, evs_append, hl]
    simp only [List.nil_append]
    have ek : (off : Int) + (l.length : Int) + 1 = ((off + l.length + 1 : Nat) : Int) := by omega
    rw [evs_cons, ek]
    have hdr : ∀ m, xs.drop (off + l.length + 1 + m) = r.drop m := fun m => by
      have : xs.drop (off + (l.length + (1 + m))) = (xs.drop off).drop (l.length + (1 + m)) := by rw [List.drop_drop]
      rw [show off + l.length + 1 + m = off + (l.length + (1 + m)) from by omega, this, hd]
      rw [← List.drop_drop, List.drop_left, Nat.add_comm 1 m]
      rfl
    rcases hn with ⟨rfl, hnc⟩ | ⟨rfl, rfl, hr⟩
    · rw [show xs.drop (off + l.length + 1) = r from by simpa using hdr 0]
      rcases hc with rfl | rfl
      · rw [h13]
        have hr : r.head? ≠ some 10 := fun e => hnc ⟨rfl, e⟩
        have := evs_norm hb hU r ((off + l.length + 1 : Nat) : Int) hr
        simp only
        rw [this.1, this.2]
        exact ⟨rfl, rfl⟩
      · rw [h10]
        exact ⟨rfl, rfl⟩
    · rw [h13]
      cases r with
      | nil => simp at hr
      | cons d t =>
        obtain rfl : d = 10 := by simpa using hr
        have hs : step { U with at_ := 1 } 10 = (U, false) := by
          rw [step_begun (S := { U with at_ := 1 }) hb, step1, if_pos rfl, if_pos rfl]
          cases U; simp only at hU; subst hU; rfl
        simp only
        rw [evs_quiet hs, show xs.drop (off + l.length + 2) = t from by simpa using hdr 1]
        exact ⟨by congr 2, by congr 3⟩
  refine ⟨?_, ?_, hU, hb, hI⟩
  · rw [h.ev, hkey.1, List.append_assoc]
  · rw [h.st, hkey.2]
end M
end Go.Proofs.Qxb6602599aDoor
