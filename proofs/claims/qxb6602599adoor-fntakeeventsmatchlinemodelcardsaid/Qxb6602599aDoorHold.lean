import Derived.Test.Qxb6602599aDoorAgree
namespace Go.Proofs.Qxb6602599aDoor
open Go.RowKit
open Go
namespace M
theorem bom_none {xs : List Int} (h3 : ¬ (3 ≤ xs.length ∧ ∀ j, j < 3 → xs.getD j 0 = bomAt j)) (hn : ¬ (xs.length ≤ 3 ∧ ∀ j, j < xs.length → xs.getD j 0 = bomAt j)) : evs init xs 0 = evs begun0 xs 0 := by
  cases xs with
  | nil => exact absurd ⟨by simp, fun j hj => by simp at hj⟩ hn
  | cons c0 r =>
    by_cases h0 : c0 = 239
    · subst h0
      cases r with
      | nil => exact absurd ⟨by simp, fun j hj => by simp at hj; subst hj; rfl⟩ hn
      | cons c1 r =>
        have s0 : step init 239 = ({ init with bom := 1 }, false) := by kernel_rfl
        have t0 : step begun0 239 = (keep { begun0 with at_ := 3, pending := true } [239], false) := by kernel_rfl
        rw [evs_quiet s0, evs_quiet t0]
        by_cases h1 : c1 = 187
        · subst h1
          cases r with
          | nil => exact absurd ⟨by simp, fun j hj => by
              simp at hj
              rcases j with _ | _ | j
              · rfl
              · rfl
              · omega⟩ hn
          | cons c2 r =>
            have s1 : step { init with bom := 1 } 187 = ({ init with bom := 2 }, false) := by kernel_rfl
            have t1 : step (keep { begun0 with at_ := 3, pending := true } [239]) 187 = (keep (keep { begun0 with at_ := 3, pending := true } [239]) [187], false) := by
              rw [step_begun (by rw [keep_begun]; rfl), step1, keep_at, if_neg (by decide), if_neg (by decide), if_neg (by decide), if_neg (by decide)]
            rw [evs_quiet s1, evs_quiet t1, keep_keep]
            have h2 : c2 ≠ 191 := by
              intro e
              subst e
              exact h3 ⟨by simp, fun j hj => by
                rcases j with _ | _ | _ | j
                · rfl
                · rfl
                · rfl
                · omega⟩
            have e : step { init with bom := 2 } c2 = step (keep { begun0 with at_ := 3, pending := true } ([239] ++ [187])) c2 := by
              rw [step_begun (S := keep { begun0 with at_ := 3, pending := true } ([239] ++ [187])) (by rw [keep_begun]; rfl)]
              rw [step, if_neg (by decide), if_neg (by show ¬ c2 = 191; exact h2)]
              rfl
            rw [evs_cons, e, ← evs_cons]
        · have e : step { init with bom := 1 } c1 = step (keep { begun0 with at_ := 3, pending := true } [239]) c1 := by
            rw [step_begun (S := keep { begun0 with at_ := 3, pending := true } [239]) (by rw [keep_begun]; rfl)]
            rw [step, if_neg (by decide), if_neg (by show ¬ c1 = 187; exact h1)]
            rfl
          rw [evs_cons, e, ← evs_cons]
    · have e : step init c0 = step begun0 c0 := by
        rw [step_begun (S := begun0) rfl, step, if_neg (by decide), if_neg (by show ¬ c0 = 239; exact h0)]
        rfl
      rw [evs_cons, e, ← evs_cons]

theorem inv_begun0 : Inv begun0 := inv_begun inv_init 0 (by omega)

theorem LRel.none {xs : List Int} (h3 : ¬ (3 ≤ xs.length ∧ ∀ j, j < 3 → xs.getD j 0 = bomAt j)) (hn : ¬ (xs.length ≤ 3 ∧ ∀ j, j < xs.length → xs.getD j 0 = bomAt j)) : LRel xs 0 begun0 [] := by
  have e := bom_none h3 hn
  refine ⟨?_, ?_, rfl, rfl, inv_begun0⟩
  · rw [e, List.nil_append, List.drop_zero]; rfl
  · rw [e, List.drop_zero]; rfl

theorem LRel.full {xs : List Int} (h : 3 ≤ xs.length) (ha : ∀ j, j < 3 → xs.getD j 0 = bomAt j) : LRel xs 3 begun0 [] := by
  match xs, h, ha with
  | c0 :: c1 :: c2 :: r, h, ha =>
    obtain rfl : c0 = 239 := ha 0 (by omega)
    obtain rfl : c1 = 187 := ha 1 (by omega)
    obtain rfl : c2 = 191 := ha 2 (by omega)
    have s0 : step init 239 = ({ init with bom := 1 }, false) := by kernel_rfl
    have s1 : step { init with bom := 1 } 187 = ({ init with bom := 2 }, false) := by kernel_rfl
    have s2 : step { init with bom := 2 } 191 = (begun0, false) := by kernel_rfl
    refine ⟨?_, ?_, rfl, rfl, inv_begun0⟩
    · rw [evs_quiet s0, evs_quiet s1, evs_quiet s2]; rfl
    · rw [evs_quiet s0, evs_quiet s1, evs_quiet s2]; rfl

theorem bom_part {xs : List Int} (h : xs.length < 3) (ha : ∀ j, j < xs.length → xs.getD j 0 = bomAt j) : (evs init xs 0).1 = [] ∧ core (evs init xs 0).2 = (false, false, [], []) := by
  match xs, h, ha with
  | [], _, _ => exact ⟨rfl, rfl⟩
  | [c0], _, ha =>
    obtain rfl : c0 = 239 := ha 0 (by simp)
    exact ⟨by kernel_rfl, by kernel_rfl⟩
  | [c0, c1], _, ha =>
    obtain rfl : c0 = 239 := ha 0 (by simp)
    obtain rfl : c1 = 187 := ha 1 (by simp)
    exact ⟨by kernel_rfl, by kernel_rfl⟩
end M

def Fb (v7 v17 : Value) (k : Nat) : Prop := v7.ownBlock = some k ∨ v17.ownBlock = some k

def Bs (w : World) (F : Nat → Prop) (v : Value) (xs : List Int) : Prop := ∃ p n c, v = .slice p n c ∧ n = xs.length ∧ BIn w p n xs ∧ ∀ a : Addr, p = some a → 0 < n → ¬ F a.block

theorem Bs.nil (w : World) (F : Nat → Prop) : Bs w F (.slice none 0 0) [] := ⟨none, 0, 0, rfl, rfl, BIn.zero _ _ _, fun _ e => by cases e⟩
theorem Bs.kept {w w' : World} {F F' G : Nat → Prop} {v : Value} {xs : List Int} (h : Bs w F v xs) (hf : Fr G w w') (hG : ∀ k, G k → F k) (hF : ∀ k, F' k → F k ∨ w.heap.size ≤ k) : Bs w' F' v xs := by
  obtain ⟨p, n, c, rfl, hn, hin, hfar⟩ := h
  refine ⟨p, n, c, rfl, hn, hin.kept hf (fun a e h0 hg => hfar a e h0 (hG _ hg)), fun a e h0 hf' => ?_⟩
  rcases hF _ hf' with h1 | h1
  · exact hfar a e h0 h1
  · obtain ⟨b, o, e', hc⟩ := hin h0
    rw [e] at e'; cases e'
    have := World.block_lt_of_cell? w _ (hc 0 h0)
    simp only at this h1
    omega

structure MS (B : Nat) (w0 w : World) (v7 v10 v11 v16 v17 : Value) (ec nm dt en ed : List Int) : Prop where
  fr : Fr (fun k => B ≤ k) w0 w
  o7 : w.ownsRow 0 3 1 v7 ec.length (i64s ec)
  o17 : w.ownsRow 0 5 1 v17 ed.length (ubs ed)
  b7 : ∀ k, v7.ownBlock = some k → B ≤ k
  b17 : ∀ k, v17.ownBlock = some k → B ≤ k
  r10 : Bs w (Fb v7 v17) v10 nm
  r11 : Bs w (Fb v7 v17) v11 dt
  r16 : Bs w (Fb v7 v17) v16 en

theorem MS.start (w : World) : MS w.heap.size w w (.slice none 0 0) (.slice none 0 0) (.slice none 0 0) (.slice none 0 0) (.slice none 0 0) [] [] [] [] [] :=
  ⟨Fr.refl _ _, ⟨rfl, .inl ⟨rfl, rfl⟩⟩, ⟨rfl, .inl ⟨rfl, rfl⟩⟩, (fun _ e => by cases e), (fun _ e => by cases e), Bs.nil _ _, Bs.nil _ _, Bs.nil _ _⟩

section
variable {B : Nat} {w0 w w' : World} {v7 v10 v11 v16 v17 : Value} {ec nm dt en ed : List Int}

theorem MS.quiet (h : MS B w0 w v7 v10 v11 v16 v17 ec nm dt en ed) (hf : Fr (fun _ => False) w w') : MS B w0 w' v7 v10 v11 v16 v17 ec nm dt en ed :=
  ⟨h.fr.trans hf (fun _ e => e.elim), hf.owns h.o7 (fun _ _ e => e), hf.owns h.o17 (fun _ _ e => e), h.b7, h.b17, h.r10.kept hf (fun _ e => e.elim) (fun _ e => .inl e), h.r11.kept hf (fun _ e => e.elim) (fun _ e => .inl e), h.r16.kept hf (fun _ e => e.elim) (fun _ e => .inl e)⟩

theorem own_apart {w : World} {u v : Value} {n m : Nat} {xs ys : List Value} (h1 : w.ownsRow 0 3 1 u n xs) (h2 : w.ownsRow 0 5 1 v m ys) : ∀ k, u.ownBlock = some k → v.ownBlock ≠ some k := by
  intro k hk hv
  rcases h1.2 with ⟨rfl, _⟩ | ⟨g, cap, cur, rfl, _, hh, _⟩
  · cases hk
  · rcases h2.2 with ⟨rfl, _⟩ | ⟨g', cap', cur', rfl, _, hh', _⟩
    · cases hv
    · simp [Value.ownBlock] at hk hv
      subst hk
      subst hv
      rw [hh] at hh'
      simp at hh'

theorem MS.ends {o : Obj} {x : Int} {v' : Value} {m : Nat} (h : MS B w0 w v7 v10 v11 v16 v17 ec nm dt en ed) (hB : B ≤ w0.heap.size) (hg : (w.alloc o).grownBy w' v7.ownBlock) (ho : w'.ownsRow 0 3 1 v' m (i64s ec ++ [.int .i64 x])) (hm : ec.length + 1 = m)
    (hat : v'.ownBlock = v7.ownBlock ∨ v'.ownBlock = some (w.heap.size + 1)) : MS B w0 w' v' v10 v11 v16 v17 (ec ++ [x]) nm dt en ed := by
  have hfr : Fr (fun k => v7.ownBlock = some k) w w' := (Fr.alloc (F := fun k => v7.ownBlock = some k) w o).trans (Fr.grown hg (fun k hk => hk)) (fun k hk => .inl hk)
  have hs := h.fr.size
  have hF : ∀ k, Fb v' v17 k → Fb v7 v17 k ∨ w.heap.size ≤ k := by
    intro k hk
    rcases hk with e | e
    · rcases hat with e2 | e2
      · exact .inl (.inl (e2 ▸ e))
      · rw [e] at e2; cases e2; exact .inr (by omega)
    · exact .inl (.inr e)
  refine ⟨h.fr.trans hfr (fun k hk => .inl (h.b7 k hk)), ?_, hfr.owns h.o17 (fun k hk e => own_apart h.o7 h.o17 k e hk), fun k hk => ?_, h.b17, h.r10.kept hfr (fun k e => .inl e) hF, h.r11.kept hfr (fun k e => .inl e) hF, h.r16.kept hfr (fun k e => .inl e) hF⟩
  · have e : (ec ++ [x]).length = m := by simp; omega
    rw [e]
    simpa [i64s] using ho
  · rcases hat with e | e
    · exact h.b7 k (e ▸ hk)
    · rw [hk] at e; cases e; omega

theorem MS.grow {ed' : List Int} {v' : Value} {m : Nat} (h : MS B w0 w v7 v10 v11 v16 v17 ec nm dt en ed) (hB : B ≤ w0.heap.size) (hfr : Fr (fun k => v17.ownBlock = some k) w w') (ho : w'.ownsRow 0 5 1 v' m (ubs ed')) (hm : m = ed'.length)
    (hat : ∀ k, v'.ownBlock = some k → v17.ownBlock = some k ∨ w.heap.size ≤ k) : MS B w0 w' v7 v10 v11 v16 v' ec nm dt en ed' := by
  have hs := h.fr.size
  have hF : ∀ k, Fb v7 v' k → Fb v7 v17 k ∨ w.heap.size ≤ k := by
    intro k hk
    rcases hk with e | e
    · exact .inl (.inl e)
    · rcases hat k e with e2 | e2
      · exact .inl (.inr e2)
      · exact .inr e2
  refine ⟨h.fr.trans hfr (fun k hk => .inl (h.b17 k hk)), hfr.owns h.o7 (fun k hk e => own_apart h.o7 h.o17 k hk e), by rw [← hm]; exact ho, h.b7, fun k hk => ?_, h.r10.kept hfr (fun k e => .inr e) hF, h.r11.kept hfr (fun k e => .inr e) hF, h.r16.kept hfr (fun k e => .inr e) hF⟩
  rcases hat k hk with e | e
  · exact h.b17 k e
  · omega

theorem MS.reset (h : MS B w0 w v7 v10 v11 v16 v17 ec nm dt en ed) : MS B w0 w v7 v10 v11 (.slice none 0 0) (.slice none 0 0) ec nm dt [] [] := by
  have hF : ∀ k, Fb v7 (.slice none 0 0) k → Fb v7 v17 k ∨ w.heap.size ≤ k := fun k e => by
    rcases e with e | e
    · exact .inl (.inl e)
    · cases e
  exact ⟨h.fr, h.o7, ⟨rfl, .inl ⟨rfl, rfl⟩⟩, h.b7, (fun _ e => by cases e), h.r10.kept (Fr.refl (fun _ => False) _) (fun _ e => e.elim) hF, h.r11.kept (Fr.refl (fun _ => False) _) (fun _ e => e.elim) hF, Bs.nil _ _⟩

def Cloned (w : World) (n : Nat) (xs : List Int) (e : Ending) (w' : World) : Prop := ∃ p' c', e = .returned (.slice p' n c') ∧ BIn w' p' n xs ∧ (∀ a : Addr, p' = some a → a.block = w.heap.size) ∧ Fr (fun _ => False) w w'

theorem clone_new (p : Option Addr) (n c : Nat) (xs : List Int) (w : World) (hx : xs.length = n) (hn : n ≤ 1048576) (hin : BIn w p n xs) : Calls Tryd.prog 6 #[.slice p n c] w fun e w' => Cloned w n xs e w' := by
  cases p with
  | none =>
    obtain rfl : n = 0 := by
      rcases Nat.eq_zero_or_pos n with e | e
      · exact e
      · obtain ⟨b, o, e, _⟩ := hin e
        cases e
    refine (clone_nil c w 0).mono ?_
    rintro e w' ⟨rfl, rfl⟩
    exact ⟨none, 0, rfl, BIn.zero _ _ _, (fun _ e => by cases e), Fr.refl _ _⟩
  | some a =>
    refine (clone_some a n c xs w hx hn hin).mono ?_
    rintro e w' ⟨rfl, rfl⟩
    refine ⟨_, _, rfl, fun _ => ⟨w.heap.size, 0, rfl, fun i hi => ?_⟩, (fun a e => by cases e; rfl), Fr.alloc w _⟩
    rw [cell_of_row _ _ _ _ _ _ (heap_alloc_new w _)]
    have : i < xs.length := by omega
    simp [ubs, List.getD, this]

theorem MS.fb (h : MS B w0 w v7 v10 v11 v16 v17 ec nm dt en ed) : ∀ k, Fb v7 v17 k → k < w.heap.size := by
  intro k hk
  rcases hk with e | e
  · exact (h.o7.lt k e).2
  · exact (h.o17.lt k e).2

theorem MS.bs (h : MS B w0 w v7 v10 v11 v16 v17 ec nm dt en ed) {p' : Option Addr} {n c' : Nat} {xs : List Int} (hn : n = xs.length) (hin : BIn w' p' n xs) (hat : ∀ a : Addr, p' = some a → a.block = w.heap.size) : Bs w' (Fb v7 v17) (.slice p' n c') xs :=
  ⟨p', n, c', rfl, hn, hin, fun a e _ hf => by have := h.fb _ hf; rw [hat a e] at this; omega⟩

theorem MS.set10 {v : Value} {xs : List Int} (h : MS B w0 w v7 v10 v11 v16 v17 ec nm dt en ed) (hb : Bs w (Fb v7 v17) v xs) : MS B w0 w v7 v v11 v16 v17 ec xs dt en ed := ⟨h.fr, h.o7, h.o17, h.b7, h.b17, hb, h.r11, h.r16⟩
theorem MS.set11 {v : Value} {xs : List Int} (h : MS B w0 w v7 v10 v11 v16 v17 ec nm dt en ed) (hb : Bs w (Fb v7 v17) v xs) : MS B w0 w v7 v10 v v16 v17 ec nm xs en ed := ⟨h.fr, h.o7, h.o17, h.b7, h.b17, h.r10, hb, h.r16⟩
theorem MS.set16 {v : Value} {xs : List Int} (h : MS B w0 w v7 v10 v11 v16 v17 ec nm dt en ed) (hb : Bs w (Fb v7 v17) v xs) : MS B w0 w v7 v10 v11 v v17 ec nm dt xs ed := ⟨h.fr, h.o7, h.o17, h.b7, h.b17, h.r10, h.r11, hb⟩
end
end Go.Proofs.Qxb6602599aDoor
