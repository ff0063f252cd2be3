import Derived.Test.Qxb6602721aDoorDecimal
namespace Go.Proofs.Qxb6602721aDoor
open Go.RowKit
open Go

theorem add_plain (b o i : Nat) : (⟨b, o, none⟩ : Addr).add i = ⟨b, o + i, none⟩ := by unfold Addr.add; split <;> simp_all

structure Row (N : Nat) (wA w : World) (v : Value) (xs : List UInt8) : Prop where
  own : w.ownsRow 0 5 1 v xs.length (ub xs)
  blk : ∀ k, v.ownBlock = some k → N ≤ k
  fr : Fr (fun k => N ≤ k) wA w

theorem Row.made {w w' : World} {v : Value} (ho : w'.ownsRow 0 5 1 v 0 []) (hv : v.ownBlock = some w.heap.size) (hg : w.grownBy w' none) : Row w.heap.size w w' v [] :=
  ⟨ho, (fun k e => by rw [hv] at e; cases e; exact Nat.le_refl _), Fr.grown hg (fun k e => by cases e)⟩

theorem Row.app {N : Nat} {wA w w' : World} {v v' : Value} {xs : List UInt8} {c : UInt8} {o : Obj} {m : Nat} (h : Row N wA w v xs) (hN : N ≤ wA.heap.size) (hg : (w.alloc o).grownBy w' v.ownBlock) (ho : w'.ownsRow 0 5 1 v' m (ub xs ++ ub [c])) (hm : m = xs.length + 1)
    (hat : v'.ownBlock = v.ownBlock ∨ v'.ownBlock = some (w.heap.size + 1)) : Row N wA w' v' (xs ++ [c]) := by
  have hs := h.fr.size
  refine ⟨?_, fun k hk => ?_, h.fr.trans ((Fr.alloc (F := fun k => v.ownBlock = some k) w o).trans (Fr.grown hg (fun k hk => hk)) (fun k hk => .inl hk)) (fun k hk => .inl (h.blk k hk))⟩
  · rw [ub_app] at ho
    rw [show (xs ++ [c]).length = m from by simp [hm]]
    exact ho
  · rcases hat with e | e
    · exact h.blk k (e ▸ hk)
    · rw [hk] at e; cases e; omega

theorem Row.join {N : Nat} {wA w w' : World} {v v' : Value} {xs ys : List UInt8} {m : Nat} (h : Row N wA w v xs) (hN : N ≤ wA.heap.size) (hg : w.grownBy w' v.ownBlock) (ho : w'.ownsRow 0 5 1 v' m (ub xs ++ ub ys)) (hm : m = xs.length + ys.length)
    (hat : v'.ownBlock = v.ownBlock ∨ v'.ownBlock = some w.heap.size) : Row N wA w' v' (xs ++ ys) := by
  have hs := h.fr.size
  refine ⟨?_, fun k hk => ?_, h.fr.trans (Fr.grown (F := fun k => v.ownBlock = some k) hg (fun k hk => hk)) (fun k hk => .inl (h.blk k hk))⟩
  · rw [ub_app] at ho
    rw [show (xs ++ ys).length = m from by simp [hm]]
    exact ho
  · rcases hat with e | e
    · exact h.blk k (e ▸ hk)
    · rw [hk] at e; cases e; omega

theorem Row.kept {N M : Nat} {wA w w' : World} {v : Value} {xs : List UInt8} (h : Row N wA w v xs) (hN : N ≤ wA.heap.size) (hf : Fr (fun k => M ≤ k) w w') (hM : w.heap.size ≤ M) : Row N wA w' v xs := by
  have hs := h.fr.size
  refine ⟨hf.owns h.own (fun k e hc => ?_), h.blk, h.fr.trans hf (fun k hk => .inl (by omega))⟩
  have := (h.own.lt k e).2
  omega

theorem Row.form {N : Nat} {wA w : World} {v : Value} {xs : List UInt8} (h : Row N wA w v xs) : ∃ ao cap, v = .slice ao xs.length cap ∧ xs.length ≤ cap ∧ (ao = none → xs.length = 0 ∧ cap = 0) := by
  obtain ⟨ao, cap, e, h1, h2, _⟩ := own_form h.own
  refine ⟨ao, cap, e, h1, fun e => ?_⟩
  have := h2 e
  omega

theorem Row.full {N : Nat} {wA w : World} {v : Value} {xs : List UInt8} (h : Row N wA w v xs) (hx : xs ≠ []) : ∃ g cap, v = .slice (some ⟨g, 0, none⟩) xs.length cap ∧ xs.length ≤ cap := by
  rcases h.own.2 with ⟨_, e⟩ | ⟨g, cap, cur, e, _, _, hc, _⟩
  · exact absurd (List.eq_nil_of_length_eq_zero e) hx
  · exact ⟨g, cap, e, hc⟩

theorem Row.cells {N : Nat} {wA w : World} {xs : List UInt8} {ao : Option Addr} {n cap : Nat} (h : Row N wA w (.slice ao n cap) xs) : n = xs.length ∧ (0 < n → ∃ g, ao = some ⟨g, 0, none⟩ ∧ ∀ i (hi : i < xs.length), w.cell? ⟨g, 0 + i, none⟩ = some (.int .u8 (xs[i].toNat : Int))) := by
  have hl : xs.length = n := by
    obtain ⟨ao', cap', e, _⟩ := own_form h.own
    cases e
    rfl
  refine ⟨hl.symm, fun h0 => ?_⟩
  rcases h.own.2 with ⟨e, _⟩ | ⟨g, cap', cur, e, _, hh, _, _, _, htake⟩
  · cases e; omega
  · cases e
    refine ⟨g, rfl, fun i hi => ?_⟩
    have h1 : (ub xs)[i]? = some (.int .u8 (xs[i].toNat : Int)) := by simp [ub, hi]
    rw [← htake, List.getElem?_take] at h1
    split at h1
    · rw [Nat.zero_add]
      simp only [World.cell?, hh]
      simpa using h1
    · cases h1

theorem Row.str {N : Nat} {wA w : World} {xs : List UInt8} {ao : Option Addr} {n cap : Nat} (h : Row N wA w (.slice ao n cap) xs) (h0 : 0 < n) (wx : World) (hx : wx.heap = w.heap) : (convert 31 9 (.slice ao n cap)).run Tryd.prog wx = .ok (.string (bs xs)) wx := by
  obtain ⟨hn, hc0⟩ := h.cells
  obtain ⟨g, rfl, hc⟩ := hc0 h0
  clear hc0
  subst hn
  refine run_convert_bytes_back wx 31 9 5 ⟨g, 0, none⟩ cap xs Tryd.underlying31 Tryd.underlying5 Tryd.underlying9 (fun j hj => ?_)
  have := hc j hj
  have e : wx.cell? ⟨g, 0 + j, none⟩ = w.cell? ⟨g, 0 + j, none⟩ := by simp [World.cell?, hx]
  rw [add_plain, e, this]

theorem Row.news {N : Nat} {wA w : World} {xs : List UInt8} {g n cap : Nat} (h : Row N wA w (.slice (some ⟨g, 0, none⟩) n cap) xs) (p q : Nat) (hpq : p ≤ q) (hq : q ≤ n) : ∀ j u, (ub ((xs.take q).drop p))[j]? = some u → w.cell? ((⟨g, p, none⟩ : Addr).add j) = some u := by
  intro j u hu
  obtain ⟨hn, hc⟩ := h.cells
  have hj : j < ((xs.take q).drop p).length := by
    have := (List.getElem?_eq_some_iff.1 hu).1
    simpa [ub] using this
  rw [List.length_drop, List.length_take] at hj
  obtain ⟨g', e, hc⟩ := hc (by omega)
  cases e
  have h1 := hc (p + j) (by omega)
  rw [add_plain, ← hu, show p + j = 0 + (p + j) from by omega, h1]
  have h2 : p + j < q := by omega
  have h3 : p + j < xs.length := by omega
  simp [ub, List.getElem?_drop, h2, h3]

theorem zeros_row {N : Nat} {wA w w' : World} {v : Value} {xs : List UInt8} {m : Nat} {e : Ending} (h : Row N wA w v xs) (hN : N ≤ wA.heap.size) (hz : Zeroed w v xs m e w') : ∃ v', e = .returned v' ∧ Row N wA w' v' (xs ++ List.replicate m 48) := by
  obtain ⟨v', rfl, ho, hf, hk⟩ := hz
  have hs := h.fr.size
  refine ⟨v', rfl, ?_, fun k e => ?_, h.fr.trans hf (fun k e => .inl (h.blk k e))⟩
  · rw [show (xs ++ List.replicate m (48 : UInt8)).length = xs.length + m from by simp]
    exact ho
  · rcases hk k e with e1 | e1
    · exact h.blk k e1
    · omega
end Go.Proofs.Qxb6602721aDoor
