import Derived.Test.Qxb6602599aDoorSmall
namespace Go.Proofs.Qxb6602599aDoor
open Go.RowKit
open Go

namespace M
theorem nb_keep (S : St) (b : List Int) : (keep S b).name.length ≤ S.name.length := by
  unfold keep
  split
  · split
    · simp
    · exact Nat.le_refl _
  · exact Nat.le_refl _
theorem nb_empty (S : St) : (emptyLine S).name = [] := by
  unfold emptyLine
  split <;> rfl
theorem nb_lineEnd {S : St} (h : S.line.length ≤ 65536) (hn : S.name.length ≤ 65536) : (lineEnd S).name.length ≤ 65536 := by
  unfold lineEnd
  split
  · unfold field
    split
    · have := name_len S.line
      simp only; omega
    · split <;> exact hn
  · exact hn
theorem nb_start {S : St} (c : Int) (hn : S.name.length ≤ 65536) : (stepStart S c).1.name.length ≤ 65536 := by
  unfold stepStart
  split
  · rw [nb_empty]; simp
  · split
    · rw [nb_empty]; simp
    · split
      · exact hn
      · exact Nat.le_trans (nb_keep _ _) hn
theorem nb_step1 {S : St} (c : Int) (h : S.line.length ≤ 65536) (hn : S.name.length ≤ 65536) : (step1 S c).1.name.length ≤ 65536 := by
  unfold step1
  split
  · split
    · exact hn
    · exact nb_start (S := { S with at_ := 0 }) c hn
  · split
    · exact nb_start c hn
    · split
      · exact nb_lineEnd h hn
      · split
        · exact nb_lineEnd h hn
        · exact Nat.le_trans (nb_keep _ _) hn
theorem nb_step {S : St} (hI : Inv S) (c : Int) (hn : S.name.length ≤ 65536) : (step S c).1.name.length ≤ 65536 := by
  unfold step
  split
  · exact nb_step1 c hI.line hn
  · rename_i hg
    split
    · split <;> exact hn
    · refine nb_step1 c (inv_begin hI (by simpa using hg)).line ?_
      unfold begin_
      split
      · exact Nat.le_trans (nb_keep _ _) hn
      · exact hn
theorem nb_evs : ∀ (xs : List Int) {S : St} (k : Int), Inv S → IsB xs → S.name.length ≤ 65536 → (evs S xs k).2.name.length ≤ 65536
  | [], S, _, _, _, hn => hn
  | c :: r, S, k, h, hB, hn => by
    have h1 := inv_step h (hB c (by simp))
    unfold evs
    exact nb_evs r (k + 1) h1 (fun x hx => hB x (List.mem_cons_of_mem _ hx)) (nb_step h c hn)
end M

structure Lies (B : Nat) (w : World) (b : Nat) (S : M.St) (v : Value) (es : List Int) : Prop where
  str : ∃ z l n d, Str w b S z l n d ∧ ∀ k, Foot b l n d k → B ≤ k
  own : w.ownsRow 0 3 1 v es.length (i64s es)
  ownf : ∀ k, v.ownBlock = some k → B ≤ k

theorem Lies.kept {B C : Nat} {w w' : World} {b : Nat} {S : M.St} {v : Value} {es : List Int} (h : Lies B w b S v es) (hf : Fr (fun k => C ≤ k) w w') (hC : w.heap.size ≤ C) : Lies B w' b S v es := by
  obtain ⟨z, l, n, d, hs, hk⟩ := h.str
  refine ⟨⟨z, l, n, d, hs.kept hf (fun k e hc => ?_), hk⟩, hf.owns h.own (fun k e hc => ?_), h.ownf⟩
  · have := hs.footLt k e; omega
  · have := (h.own.lt k e).2; omega

theorem str_fresh (w : World) : Str (w.alloc (.cells (blkOf M.init 0 (.slice none 0 0) (.slice none 0 0) (.slice none 0 0)) 30)) w.heap.size M.init 0 (.slice none 0 0) (.slice none 0 0) (.slice none 0 0) :=
  ⟨heap_alloc_new w _, fun _ => rfl, ⟨rfl, .inl ⟨rfl, rfl⟩⟩, ⟨rfl, .inl ⟨rfl, rfl⟩⟩, ⟨rfl, .inl ⟨rfl, rfl⟩⟩, (fun _ h => by cases h), (fun _ h => by cases h), (fun _ h => by cases h)⟩

theorem lies_fresh (w : World) : Lies w.heap.size (w.alloc (.cells (blkOf M.init 0 (.slice none 0 0) (.slice none 0 0) (.slice none 0 0)) 30)) w.heap.size M.init (.slice none 0 0) [] :=
  ⟨⟨_, _, _, _, str_fresh w, fun k hk => by
    rcases hk with e | e | e | e
    · omega
    · cases e
    · cases e
    · cases e⟩, ⟨rfl, .inl ⟨rfl, rfl⟩⟩, fun _ h => by cases h⟩

theorem run_lies {B : Nat} {w : World} {b : Nat} {S : M.St} {ends : Value} {es : List Int} (h : Lies B w b S ends es) (hI : M.Inv S) (hB : B ≤ w.heap.size) (h3 : 3 ≤ B) {m : Int} (henv : Env w m)
    {p : Option Addr} {n c : Nat} {xs : List Int} (hin : BIn w p n xs) (hfar : 0 < n → ∀ a, p = some a → a.block < B) (hlen : xs.length = n) (hcap : n ≤ c) (hmax : n ≤ 1048576) (hisB : IsB xs)
    (base : Int) (hb0 : 0 ≤ base) (hb1 : base ≤ 1048576) (hes : es.length ≤ 1048576) :
    Calls Tryd.prog 7 #[.pointer (some ⟨b, 0, none⟩), .slice p n c, .int .i64 base, ends] w fun e w' => ∃ v, e = .returned (.tuple #[v, .bool true]) ∧ Lies B w' b (M.evs S xs base).2 v (es ++ (M.evs S xs base).1) ∧ Fr (fun k => B ≤ k) w w' := by
  obtain ⟨z, l, nn, d, hs, hk⟩ := h.str
  have hst : RunSt w b l nn d ends w S ends es := ⟨⟨z, l, nn, d, hs, fun k e => .inl e⟩, h.own, fun k e => .inl e, Fr.refl _ _⟩
  have key : ∀ (S' : M.St) (v : Value) (es' : List Int) (w' : World), RunSt w b l nn d ends w' S' v es' → Lies B w' b S' v es' ∧ Fr (fun k => B ≤ k) w w' := by
    intro S' v es' w' hr
    obtain ⟨z1, l1, n1, d1, hs1, hf1⟩ := hr.str
    refine ⟨⟨⟨z1, l1, n1, d1, hs1, fun k e => ?_⟩, hr.own, fun k e => ?_⟩, hr.fr.mono (fun k e => ?_)⟩
    · rcases hf1 k e with e | e
      · exact hk k e
      · omega
    · rcases hr.ownf k e with e | e
      · exact h.ownf k e
      · omega
    · rcases e with e | e
      · exact hk k e
      · exact h.ownf k e
  rcases Nat.eq_zero_or_pos n with rfl | hn
  · have hx : xs = [] := List.eq_nil_of_length_eq_zero hlen
    subst hx
    refine (run_zero hst hI p c base).mono ?_
    rintro e w' ⟨v, rfl, hr⟩
    have := key _ _ _ _ hr
    exact ⟨v, rfl, by simpa [M.evs] using this.1, this.2⟩
  · obtain ⟨pb, po, rfl, hc⟩ := hin hn
    have hpb := hfar hn _ rfl
    simp only at hpb
    refine (run_any hst hI (m := m) ⟨henv, fun k e => ?_, hc, fun e => ?_, hlen, hcap, hmax, hisB, hn⟩ base hb0 hb1 hes).mono ?_
    · rcases e with e | e
      · have := hk k e; omega
      · have := h.ownf k e; omega
    · rcases e with e | e
      · have := hk pb e; omega
      · have := h.ownf pb e; omega
    · rintro e w' ⟨v, rfl, hr⟩
      exact ⟨v, rfl, key _ _ _ _ hr⟩

theorem clone_any (p : Option Addr) (n c : Nat) (xs : List Int) (w : World) (hx : xs.length = n) (hn : n ≤ 1048576) (hin : BIn w p n xs) :
    Calls Tryd.prog 6 #[.slice p n c] w fun e w' => ∃ p' c', e = .returned (.slice p' n c') ∧ BIn w' p' n xs ∧ Fr (fun _ => False) w w' ∧ n ≤ c' ∧ (p' = none → n = 0 ∧ c' = 0) := by
  cases p with
  | none =>
    obtain rfl : n = 0 := by
      rcases Nat.eq_zero_or_pos n with e | e
      · exact e
      · obtain ⟨b, o, e, _⟩ := hin e
        cases e
    refine (clone_nil c w 0).mono ?_
    rintro e w' ⟨rfl, rfl⟩
    exact ⟨none, 0, rfl, BIn.zero _ _ _, Fr.refl _ _, Nat.le_refl _, fun _ => ⟨rfl, rfl⟩⟩
  | some a =>
    refine (clone_some a n c xs w hx hn hin).mono ?_
    rintro e w' ⟨rfl, rfl⟩
    refine ⟨_, _, rfl, fun _ => ⟨w.heap.size, 0, rfl, fun i hi => ?_⟩, Fr.alloc w _, Nat.le_refl _, fun e => by cases e⟩
    rw [cell_of_row _ _ _ _ _ _ (heap_alloc_new w _)]
    have : i < xs.length := by omega
    simp [ubs, List.getD, this]

set_option maxHeartbeats 800000 in
theorem bytes2_ok (p1 p2 : Option Addr) (n1 c1 n2 c2 : Nat) (w : World) (h1 : n1 ≤ 1048576) (h2 : n2 ≤ 1048576) (h3 : n1 + n2 ≤ 1048576) : Calls Tryd.prog 12 #[.slice p1 n1 c1, .slice p2 n2 c2] w fun e w' => e = .returned (.bool true) ∧ w = w' := by
  have z1 : ¬ ((n1 : Int) > 1048576) := by omega
  have z2 : ¬ ((n2 : Int) > 1048576) := by omega
  have z3 : ¬ ((n1 : Int) + (n2 : Int) > 1048576) := by omega
  go_enter Tryd.func12, Tryd.ntmps12
  go_wp2
  go_ret
  exact ⟨rfl, rfl⟩

set_option maxHeartbeats 800000 in
theorem bytes2_no (p1 p2 : Option Addr) (n1 c1 n2 c2 : Nat) (w : World) (h : 1048576 < n1 ∨ 1048576 < n1 + n2) : Calls Tryd.prog 12 #[.slice p1 n1 c1, .slice p2 n2 c2] w fun e w' => e = .returned (.bool false) ∧ w = w' := by
  by_cases h1 : 1048576 < n1
  · have z1 : ((n1 : Int) > 1048576) := by omega
    clear h
    go_enter Tryd.func12, Tryd.ntmps12
    go_wp2
    go_ret
    exact ⟨rfl, rfl⟩
  · have z1 : ¬ ((n1 : Int) > 1048576) := by omega
    by_cases h2 : 1048576 < n2
    · have z2 : ((n2 : Int) > 1048576) := by omega
      clear h
      have h1' : n1 ≤ 1048576 := by omega
      go_enter Tryd.func12, Tryd.ntmps12
      go_wp2
      go_ret
      exact ⟨rfl, rfl⟩
    · have z2 : ¬ ((n2 : Int) > 1048576) := by omega
      have z3 : ((n1 : Int) + (n2 : Int) > 1048576) := by omega
      have h1' : n1 ≤ 1048576 := by omega
      have h2' : n2 ≤ 1048576 := by omega
      clear h
      go_enter Tryd.func12, Tryd.ntmps12
      go_wp2
      go_ret
      exact ⟨rfl, rfl⟩
end Go.Proofs.Qxb6602599aDoor
