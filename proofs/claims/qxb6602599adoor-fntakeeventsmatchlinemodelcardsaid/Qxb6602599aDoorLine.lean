import Derived.Test.Qxb6602599aDoorCut
import Derived.Laws.AppendOwnNone
namespace Go.Proofs.Qxb6602599aDoor
open Go.RowKit
open Go

theorem cell_off {w : World} {b i j : Nat} {v : Value} (h : i ≠ j) : (w.setCell ⟨b, i, none⟩ v).cell? ⟨b, j, none⟩ = w.cell? ⟨b, j, none⟩ :=
  World.cell?_setCell_other w _ _ v (by intro e; cases e; exact h rfl)
theorem conv_const (w : World) (H : Nat) (C : Array Value) (n c : Nat) (h : w.heap.size = H) :
    (convert 22 22 (.slice (some ⟨H, 0, none⟩) n c)).run Tryd.prog (w.alloc (.cells C 5)) = .ok (.slice (some ⟨H, 0, none⟩) n c) (w.alloc (.cells C 5 (C.size, C.size + 1))) := by
  subst h
  exact Lib.run_convert_bytes_const (P := Tryd.prog) w 22 5 C n c Tryd.underlying22 Tryd.underlying5

set_option maxHeartbeats 800000 in
theorem line_no (b : Nat) (a : Int) (d t : Bool) (w : World) (c0 : w.cell? ⟨b, 0, none⟩ = some (.int .u8 a)) (c6 : w.cell? ⟨b, 6, none⟩ = some (.bool d)) (c7 : w.cell? ⟨b, 7, none⟩ = some (.bool t))
    (f0 : ∀ k, w.frozen? ⟨b, k, none⟩ = false) (h : (a == 3 && (!d && !t)) = false) :
    Calls Tryd.prog 22 #[.pointer (some ⟨b, 0, none⟩)] w fun e w' => e = .returned (.tuple #[]) ∧ w.setCell ⟨b, 0, none⟩ (.int .u8 0) = w' := by
  by_cases h3 : a = 3
  · subst h3
    have h' : (!d && !t) = false := by simpa using h
    have hr := reading_any b d t (w.setCell ⟨b, 0, none⟩ (.int .u8 0)) (by rw [cell_off (by decide)]; exact c6) (by rw [cell_off (by decide)]; exact c7)
    rw [h'] at hr
    clear h h'
    go_enter Tryd.func22, Tryd.ntmps22
    go_wp2_with (go_at_call 24; refine hr.mono ?_; rintro e w' ⟨rfl, rfl⟩)
    first | go_end0 | refine bodyPost_ret (results_none rfl _ _ _) rfl ?_
    exact ⟨rfl, rfl⟩
  · have h4 : (a == 3) = false := by simpa using h3
    go_enter Tryd.func22, Tryd.ntmps22
    go_wp2_with fail
    first | go_end0 | refine bodyPost_ret (results_none rfl _ _ _) rfl ?_
    exact ⟨rfl, rfl⟩

theorem Apart.symm {u v : Value} (h : Apart u v) : Apart v u := fun k h1 h2 => h k h2 h1
theorem apart_mk {u v u' v' : Value} {sz : Nat} (h : Apart u v) (hu : ∀ k, u'.ownBlock = some k → u.ownBlock = some k ∨ sz ≤ k) (hv : ∀ k, v'.ownBlock = some k → v.ownBlock = some k ∧ k < sz) : Apart u' v' := by
  intro k h1 h2
  obtain ⟨h3, h4⟩ := hv k h2
  rcases hu k h1 with h5 | h5
  · exact h k h5 h3
  · omega

theorem Str.grew {w w' : World} {b : Nat} {S S' : M.St} {z z' : Int} {vl vn vd vl' vn' vd' : Value} (h : Str w b S z vl vn vd) (hF : Fr (Foot b vl vn vd) w w')
    (hb : w'.heap[b]? = some (.cells (blkOf S' z' vl' vn' vd') 30 (0, 0))) (hz : S'.tooLong = false → z' = S'.size)
    (hl : w'.ownsRow 0 5 1 vl' S'.line.length (ubs S'.line)) (hn : w'.ownsRow 0 5 1 vn' S'.name.length (ubs S'.name)) (hd : w'.ownsRow 0 5 1 vd' S'.data.length (ubs S'.data))
    (ol : ∀ k, vl'.ownBlock = some k → vl.ownBlock = some k) (on : ∀ k, vn'.ownBlock = some k → vn.ownBlock = some k ∨ (w.heap.size ≤ k ∧ vd'.ownBlock = vd.ownBlock)) (od : ∀ k, vd'.ownBlock = some k → vd.ownBlock = some k ∨ (w.heap.size ≤ k ∧ vn'.ownBlock = vn.ownBlock)) : Left b vl vn vd w S' w' := by
  have hl' : ∀ k, vl'.ownBlock = some k → vl.ownBlock = some k ∧ k < w.heap.size := fun k hk => ⟨ol k hk, (h.line.lt k (ol k hk)).2⟩
  refine ⟨z', vl', vn', vd', ⟨hb, hz, hl, hn, hd, ?_, ?_, ?_⟩, ⟨hF, ?_⟩⟩
  · exact (apart_mk (sz := w.heap.size) h.ln.symm (fun k hk => (on k hk).elim .inl (fun x => .inr x.1)) hl').symm
  · exact (apart_mk (sz := w.heap.size) h.ld.symm (fun k hk => (od k hk).elim .inl (fun x => .inr x.1)) hl').symm
  · intro k h1 h2
    rcases on k h1 with h3 | ⟨h3, h4⟩
    · rcases od k h2 with h5 | ⟨h5, _⟩
      · exact h.nd k h3 h5
      · have := (h.name.lt k h3).2; omega
    · rw [h4] at h2
      have := (h.data.lt k h2).2; omega
  · intro k hk
    rcases hk with hk | hk | hk | hk
    · exact .inl (.inl hk)
    · exact .inl (.inr (.inl (ol k hk)))
    · rcases on k hk with h3 | ⟨h3, _⟩
      · exact .inl (.inr (.inr (.inl h3)))
      · exact .inr h3
    · rcases od k hk with h3 | ⟨h3, _⟩
      · exact .inl (.inr (.inr (.inr h3)))
      · exact .inr h3

theorem line_cut {w : World} {b : Nat} {S : M.St} {z : Int} {lo : Option Addr} {lc : Nat} {vn vd : Value} (h : Str w b S z (.slice lo S.line.length lc) vn vd) (H : Nat) (hs : w.cell? ⟨H, 0, none⟩ = some (.int .u8 58)) (hl : S.line.length ≤ 65536) (hB : IsB S.line) :
    Calls Tryd.prog 32 #[.slice lo S.line.length lc, .slice (some ⟨H, 0, none⟩) 1 1] w fun e w' => Str w' b S z (.slice lo S.line.length lc) vn vd ∧ Fr (fun _ => False) w w' ∧ ∃ i p' n' c' f, e = .returned (.tuple #[.slice lo i lc, .slice p' n' c', .bool f]) ∧ i ≤ S.line.length ∧ M.fieldName S.line = S.line.take i ∧
      (M.fieldRest S.line).length = n' ∧ BIn w' p' n' (M.fieldRest S.line) ∧ n' ≤ c' ∧ (p' = none → n' = 0 ∧ c' = 0) ∧ (∀ a', p' = some a' → ∃ a o, lo = some a ∧ a' = ⟨a.block, o, none⟩) := by
  obtain ⟨lo2, lc2, e, hlc, hlo, hlo'⟩ := own_form h.line
  cases e
  refine (cut_any w lo _ lc H 0 1 S.line rfl hlc (by omega) hB hlo hlo' ?_ hs).mono ?_
  · intro h0
    rcases h.line.2 with ⟨e, e2⟩ | ⟨g, cap, cur, e, _, hh, _, _, _, htake⟩
    · omega
    · cases e
      refine ⟨g, 0, rfl, fun i hi => ?_⟩
      have h1 : (ubs S.line)[i]? = some (.int .u8 (S.line.getD i 0)) := by simp [ubs, List.getD, hi]
      rw [← htake, List.getElem?_take] at h1
      split at h1
      · rw [cell_blk hh, Nat.zero_add]; simpa using h1
      · cases h1
  · rintro e w' ⟨hf, i, p', n', c', f, h1, h2, h3, h4, h5, h6, h7, h8⟩
    exact ⟨h.kept hf (fun _ _ e => e), hf, i, p', n', c', f, h1, h2, h3, h4, h5, h6, h7, h8⟩

theorem IsB.rest {xs : List Int} (h : IsB xs) : IsB (M.fieldRest xs) := fun x hx => h x (List.dropWhile_subset _ (List.mem_of_mem_drop hx))
theorem IsB.unSpace {xs : List Int} (h : IsB xs) : IsB (M.unSpace xs) := by
  cases xs with
  | nil => exact h
  | cons c r =>
    simp only [M.unSpace]
    split
    · exact fun x hx => h x (List.mem_cons_of_mem _ hx)
    · exact h

theorem toBytes_inj {xs ys : List Int} (hx : IsB xs) (hy : IsB ys) (h : M.toBytes xs = M.toBytes ys) : xs = ys := by
  induction xs generalizing ys with
  | nil => cases ys with
    | nil => rfl
    | cons y r => simp [M.toBytes] at h
  | cons x r ih => cases ys with
    | nil => simp [M.toBytes] at h
    | cons y q =>
      simp only [M.toBytes, List.map_cons, List.cons.injEq] at h
      have e : x = y := by
        have := byte_eq (hx x (by simp)) (hy y (by simp))
        rw [h.1] at this
        simpa using this
      rw [e, ih (fun a ha => hx a (List.mem_cons_of_mem _ ha)) (fun a ha => hy a (List.mem_cons_of_mem _ ha)) h.2]

theorem name_test {l k : List Int} (hl : IsB l) (hk : IsB k) : ((⟨(M.toBytes l).toArray⟩ : ByteArray).toList == M.toBytes k) = decide (l = k) := by
  rw [Bool.eq_iff_iff]
  simp only [beq_iff_eq, decide_eq_true_eq, Lib.toList_data]
  constructor
  · intro h; exact toBytes_inj hl hk (by simpa using h)
  · intro h; rw [h]

theorem cell_new {w : World} {H : Nat} {v : Value} {t : TypeId} {fr : Nat × Nat} (h : w.heap.size = H) : (w.alloc (.cells #[v] t fr)).cell? ⟨H, 0, none⟩ = some v := by
  subst h
  rw [cell_of_row _ _ _ _ _ _ (heap_alloc_new w (.cells #[v] t fr))]
  rfl

theorem unSpace_le (l : List Int) : (M.unSpace l).length ≤ l.length := by
  cases l with
  | nil => exact Nat.le_refl _
  | cons c r =>
    simp only [M.unSpace]
    split
    · simp
    · exact Nat.le_refl _
theorem value_le (l : List Int) : (M.fieldValue l).length ≤ l.length := by
  have h1 := unSpace_le (M.fieldRest l)
  have h2 : (M.fieldRest l).length ≤ l.length := by
    unfold M.fieldRest
    have := (List.dropWhile_sublist (l := l) (fun c => !(c == 58))).length_le
    simp; omega
  exact Nat.le_trans h1 h2
theorem World.grownBy_refl (w : World) (row : Option Nat) : w.grownBy w row := ⟨rfl, rfl, rfl, Nat.le_refl _, fun _ _ _ => rfl⟩

theorem line_cp {w : World} {b : Nat} {S : M.St} {z : Int} {vl vn vd : Value} (h : Str w b S z vl vn vd) (H : Nat) (hs : w.cell? ⟨H, 0, none⟩ = some (.int .u8 32)) (p : Option Addr) (n c : Nat) (xs : List Int) (hx : xs.length = n) (hnc : n ≤ c) (hB : IsB xs) (hp : p = none → n = 0 ∧ c = 0) (hpo : ∀ a, p = some a → ∃ g o, a = ⟨g, o, none⟩) (hin : BIn w p n xs) :
    Calls Tryd.prog 33 #[.slice p n c, .slice (some ⟨H, 0, none⟩) 1 1] w fun e w' => Str w' b S z vl vn vd ∧ Fr (fun _ => False) w w' ∧ ∃ p' n' c' f, e = .returned (.tuple #[.slice p' n' c', .bool f]) ∧
      (M.unSpace xs).length = n' ∧ BIn w' p' n' (M.unSpace xs) ∧ n' ≤ c' ∧ (p' = none → n' = 0 ∧ c' = 0) ∧ (∀ a', p' = some a' → ∃ a, p = some a ∧ a'.block = a.block) := by
  refine (cutPrefix_any w p n c H 0 1 xs hx hnc hB hp hpo hin hs).mono ?_
  rintro e w' ⟨rfl, h2⟩
  exact ⟨h, Fr.refl _ _, h2⟩

theorem own_kept {w w3 : World} {b : Nat} {S : M.St} {z : Int} {vl vn vd : Value} {row : Option Nat} (h : Str w b S z vl vn vd) (hg : w.grownBy w3 row) (hr : row ≠ some b) : w3.heap[b]? = some (.cells (blkOf S z vl vn vd) 30 (0, 0)) :=
  (hg.block b h.lt (fun e => hr e.symm)).trans h.blk

theorem Apart.kept {u v : Value} (h : Apart u v) : v.ownBlock = none ∨ v.ownBlock ≠ u.ownBlock := by
  cases e : v.ownBlock with
  | none => exact .inl rfl
  | some k => exact .inr (fun e' => h k e'.symm e)

theorem fin_event {w w3 : World} {b : Nat} {S : M.St} {z : Int} {lo no : Option Addr} {lc nn nc m : Nat} {vd v' : Value} {val : List Int} (h : Str w b S z (.slice lo S.line.length lc) (.slice no nn nc) vd) (hg : w.grownBy w3 (Value.slice no 0 nc).ownBlock)
    (ho : w3.ownsRow 0 5 1 v' m (ubs [] ++ ubs val)) (hm : val.length = m) (hat : v'.ownBlock = (Value.slice no 0 nc).ownBlock ∨ v'.ownBlock = some w.heap.size) :
    Left b (.slice lo S.line.length lc) (.slice no nn nc) vd w { S with name := val, line := [] } ((w3.setCell ⟨b, 9, none⟩ v').setCell ⟨b, 8, none⟩ (.slice lo 0 lc)) := by
  have eb : (Value.slice no 0 nc).ownBlock = (Value.slice no nn nc).ownBlock := by cases no <;> rfl
  rw [eb] at hg hat
  have hne := own_ne h.blk h.name
  have hb3 := own_kept h hg hne
  have hl3 := h.line.kept hg h.ln.symm.kept
  have hd3 := h.data.kept hg h.nd.kept
  have hb4 := blk_set (k := 9) (u := v') hb3
  have ho' : w3.ownsRow 0 5 1 v' val.length (ubs val) := by rw [hm]; simpa [ubs] using ho
  refine h.grew (z' := z) (vl' := .slice lo 0 lc) (vn' := v') (vd' := vd) ?_ ((blk_set hb4).trans (by simp [blkOf])) h.size (own_cut0 (own_set hb4 (own_set hb3 hl3))) (own_set hb4 (own_set hb3 ho')) (own_set hb4 (own_set hb3 hd3)) ?_ ?_ (fun k hk => .inl hk)
  · exact ((Fr.grown (F := Foot b (.slice lo S.line.length lc) (.slice no nn nc) vd) hg (fun k hk => .inr (.inr (.inl hk)))).trans (Fr.setCell (F := Foot b (.slice lo S.line.length lc) (.slice no nn nc) vd) _ (a := ⟨b, 9, none⟩) (.inl rfl) _) (fun i hi => .inl hi)).trans (Fr.setCell (F := Foot b (.slice lo S.line.length lc) (.slice no nn nc) vd) _ (a := ⟨b, 8, none⟩) (.inl rfl) _) (fun i hi => .inl hi)
  · intro k hk; cases lo <;> exact hk
  · intro k hk
    rcases hat with e | e
    · exact .inl (e ▸ hk)
    · rw [hk] at e; cases e; exact .inr ⟨Nat.le_refl _, rfl⟩

theorem fin_data {w w3 w4 : World} {b : Nat} {S : M.St} {z : Int} {lo : Option Addr} {lc m : Nat} {vn vd v1 v' : Value} {val : List Int} {o : Obj} (h : Str w b S z (.slice lo S.line.length lc) vn vd) (hg : w.grownBy w3 vd.ownBlock)
    (hat : v1.ownBlock = vd.ownBlock ∨ v1.ownBlock = some w.heap.size) (hg4 : (w3.alloc o).grownBy w4 v1.ownBlock)
    (ho : w4.ownsRow 0 5 1 v' m (ubs (S.data ++ val) ++ ubs [10])) (hm : S.data.length + val.length + 1 = m) (hat4 : v'.ownBlock = v1.ownBlock ∨ v'.ownBlock = some (w3.heap.size + 1)) :
    Left b (.slice lo S.line.length lc) vn vd w { S with data := S.data ++ val ++ [10], hasData := true, line := [] } (((w4.setCell ⟨b, 10, none⟩ v').setCell ⟨b, 11, none⟩ (.bool true)).setCell ⟨b, 8, none⟩ (.slice lo 0 lc)) := by
  have hv1 : ∀ k, v1.ownBlock = some k → vd.ownBlock = some k ∨ w.heap.size ≤ k := fun k hk => by
    rcases hat with e | e
    · exact .inl (e ▸ hk)
    · rw [hk] at e; cases e; exact .inr (Nat.le_refl _)
  have hF4 : Fr (Foot b (.slice lo S.line.length lc) vn vd) w w4 := by
    have f3 : Fr (Foot b (.slice lo S.line.length lc) vn vd) w w3 := Fr.grown hg (fun k hk => .inr (.inr (.inr hk)))
    have f3a : Fr (Foot b (.slice lo S.line.length lc) vn vd) w (w3.alloc o) := f3.trans (Fr.alloc (F := fun _ => False) w3 o) (fun _ e => e.elim)
    refine f3a.trans (F' := fun k => v1.ownBlock = some k) (Fr.grown hg4 (fun k hk => hk)) (fun k hk => ?_)
    rcases hv1 k hk with e | e
    · exact .inl (.inr (.inr (.inr e)))
    · exact .inr e
  have hnb : ¬ (vd.ownBlock = some b) := own_ne h.blk h.data
  have hd' : Fr (fun k => vd.ownBlock = some k ∨ w.heap.size ≤ k) w w4 := by
    have f3 : Fr (fun k => vd.ownBlock = some k ∨ w.heap.size ≤ k) w w3 := Fr.grown hg (fun k hk => .inl hk)
    have f3a : Fr (fun k => vd.ownBlock = some k ∨ w.heap.size ≤ k) w (w3.alloc o) := f3.trans (Fr.alloc (F := fun _ => False) w3 o) (fun _ e => e.elim)
    exact f3a.trans (F' := fun k => v1.ownBlock = some k) (Fr.grown hg4 (fun k hk => hk)) (fun k hk => .inl (hv1 k hk))
  have hb4 : w4.heap[b]? = some (.cells (blkOf S z (.slice lo S.line.length lc) vn vd) 30 (0, 0)) :=
    (hd'.block b h.lt (fun e => by rcases e with e | e; exact hnb e; have := h.lt; omega)).trans h.blk
  have hl4 := hd'.owns h.line (fun k hk e => by
    rcases e with e | e
    · exact h.ld k hk e
    · have := (h.line.lt k hk).2; omega)
  have hn4 := hd'.owns h.name (fun k hk e => by
    rcases e with e | e
    · exact h.nd k hk e
    · have := (h.name.lt k hk).2; omega)
  have ho' : w4.ownsRow 0 5 1 v' (S.data ++ val ++ [10]).length (ubs (S.data ++ val ++ [10])) := by
    have e : (S.data ++ val ++ [10]).length = m := by simp; omega
    rw [e, ← ubs_app]; exact ho
  have hb5 := blk_set (k := 10) (u := v') hb4
  have hb6 := blk_set (k := 11) (u := .bool true) hb5
  have hsz : w.heap.size ≤ w3.heap.size := hg.size
  refine h.grew (z' := z) (vl' := .slice lo 0 lc) (vn' := vn) (vd' := v') ?_ ((blk_set hb6).trans (by simp [blkOf])) h.size (own_cut0 (own_set hb6 (own_set hb5 (own_set hb4 hl4)))) (own_set hb6 (own_set hb5 (own_set hb4 hn4))) (own_set hb6 (own_set hb5 (own_set hb4 ho'))) ?_ (fun k hk => .inl hk) ?_
  · refine ((hF4.trans (Fr.setCell (F := Foot b (.slice lo S.line.length lc) vn vd) _ (a := ⟨b, 10, none⟩) (.inl rfl) _) (fun i hi => .inl hi)).trans (Fr.setCell (F := Foot b (.slice lo S.line.length lc) vn vd) _ (a := ⟨b, 11, none⟩) (.inl rfl) _) (fun i hi => .inl hi)).trans (Fr.setCell (F := Foot b (.slice lo S.line.length lc) vn vd) _ (a := ⟨b, 8, none⟩) (.inl rfl) _) (fun i hi => .inl hi)
  · intro k hk; cases lo <;> exact hk
  · intro k hk
    rcases hat4 with e | e
    · rcases hv1 k (e ▸ hk) with e | e
      · exact .inl e
      · exact .inr ⟨e, rfl⟩
    · rw [hk] at e; cases e; exact .inr ⟨by omega, rfl⟩

theorem World.heap_size_alloc' (w : World) (o : Obj) : (w.alloc o).heap.size = w.heap.size + 1 := by simp

theorem data_blk {w w3 w4 : World} {b : Nat} {S : M.St} {z : Int} {vl vn vd v1 : Value} {o : Obj} (h : Str w b S z vl vn vd) (hg : w.grownBy w3 vd.ownBlock)
    (hat : v1.ownBlock = vd.ownBlock ∨ v1.ownBlock = some w.heap.size) (hg4 : (w3.alloc o).grownBy w4 v1.ownBlock) : w4.heap[b]? = some (.cells (blkOf S z vl vn vd) 30 (0, 0)) := by
  have hnb : ¬ (vd.ownBlock = some b) := own_ne h.blk h.data
  have hlt := h.lt
  have hlt3 : b < (w3.alloc o).heap.size := by rw [World.heap_size_alloc']; have := hg.size; omega
  rw [hg4.block b hlt3 (fun e => by
    rcases hat with e2 | e2
    · exact hnb (by rw [← e2, e])
    · rw [← e] at e2; cases e2; omega)]
  rw [Below.heap_alloc _ _ _ (by have := hg.size; omega)]
  exact own_kept h hg hnb

theorem fin_other {w : World} {b : Nat} {S : M.St} {z : Int} {lo : Option Addr} {lc : Nat} {vn vd : Value} (h : Str w b S z (.slice lo S.line.length lc) vn vd) :
    Left b (.slice lo S.line.length lc) vn vd w { S with line := [] } (w.setCell ⟨b, 8, none⟩ (.slice lo 0 lc)) :=
  h.wrote (z' := z) (vl' := .slice lo 0 lc) (vn' := vn) (vd' := vd) (Fr.set_b (Fr.b0 b w) _) ((blk_set h.blk).trans (by simp [blkOf])) h.size (own_cut0 h.line) h.name h.data (.inr (by cases lo <;> rfl)) (.inr rfl) (.inr rfl)

set_option maxHeartbeats 800000 in
theorem line_yes {w : World} {b : Nat} {S : M.St} {z : Int} {vl vn vd : Value} (h : Str w b S z vl vn vd) (hat : S.at_ = 3) (hd : S.disp = false) (ht : S.tooLong = false) (hl : S.line.length ≤ 65536) (hdl : S.data.length ≤ 65536) (hB : IsB S.line) :
    Calls Tryd.prog 22 #[.pointer (some ⟨b, 0, none⟩)] w fun e w' => e = .returned (.tuple #[]) ∧ Left b vl vn vd w (M.lineEnd S) w' := by
  obtain ⟨c0, c1, c2, c3, c4, c5, c6, c7, c8, c9, c10, c11, c12⟩ := h.cells
  rw [hat] at c0; rw [hd] at c6; rw [ht] at c7
  have hfree := h.free
  have hr := reading_any b false false (w.setCell ⟨b, 0, none⟩ (.int .u8 0)) (by rw [cell_off (by decide)]; exact c6) (by rw [cell_off (by decide)]; exact c7)
  obtain ⟨lo, lc, rfl, hlc, hlo, hlo'⟩ := own_form h.line
  obtain ⟨no, nc, rfl, hnc, hno, hno'⟩ := own_form h.name
  obtain ⟨do_, dc, rfl, hdc, hdo, hdo'⟩ := own_form h.data
  have kc := conv_const
  obtain ⟨W, hW⟩ : ∃ W, W = (w.setCell ⟨b, 0, none⟩ (.int .u8 0)).alloc (.cells #[.int .u8 58] 5 (1, 2)) := ⟨_, rfl⟩
  have hG0 : Fr (fun k => k = b) w W := by rw [hW]; exact (Fr.set_b (Fr.b0 b w) _).trans (Fr.alloc (F := fun _ => False) _ _) (fun _ e => e.elim)
  have hS0 : Str W b { S with at_ := 0 } z (.slice lo S.line.length lc) (.slice no S.name.length nc) (.slice do_ S.data.length dc) := by
    have : Str (w.setCell ⟨b, 0, none⟩ (.int .u8 0)) b { S with at_ := 0 } z (.slice lo S.line.length lc) (.slice no S.name.length nc) (.slice do_ S.data.length dc) :=
      ⟨(blk_set h.blk).trans (by simp [blkOf]), h.size, own_set h.blk h.line, own_set h.blk h.name, own_set h.blk h.data, h.ln, h.ld, h.nd⟩
    rw [hW]
    exact this.kept (Fr.alloc (F := fun _ => False) _ _) (fun _ _ e => e)
  have hcut := line_cut hS0 w.heap.size (by rw [hW]; exact cell_new (by simp [World.setCell])) hl hB
  rw [hW] at hcut
  have HG0 : Hid (Fr (fun k => k = b) w W) := hG0
  have hW3 := hW
  clear hG0 hS0 hW h c9 c10 c11 c12
  go_enter Tryd.func22, Tryd.ntmps22
  go_wp2_with (go_at_call 24; refine hr.mono ?_; rintro e w' ⟨rfl, rfl⟩)
  refine hcut.mono ?_
  rintro e w1 ⟨hs1, hf1, i, p', n', c', f, rfl, hi, hfn, hrl, hbin, hnc', hpn, hpb⟩
  clear hcut hr c0 c6 c7 c8 c1 c2 c3 c4 c5 hfree

  obtain ⟨W2, hW2⟩ : ∃ W, W = w1.alloc (.cells #[.int .u8 32] 5 (1, 2)) := ⟨_, rfl⟩
  have hf2 : Fr (fun _ => False) w1 W2 := by rw [hW2]; exact Fr.alloc _ _
  have hs2 := hs1.kept hf2 (fun _ _ e => e)
  have hcp := line_cp hs2 w1.heap.size (by rw [hW2]; exact cell_new rfl) p' n' c' _ hrl hnc' hB.rest hpn (fun a' e => by obtain ⟨a, o, _, rfl⟩ := hpb a' e; exact ⟨_, _, rfl⟩) (hbin.kept hf2 (fun _ _ _ e => e))
  have G1 : Goes b (.slice lo S.line.length lc) (.slice no S.name.length nc) (.slice do_ S.data.length dc) (.slice lo S.line.length lc) (.slice no S.name.length nc) (.slice do_ S.data.length dc) w W2 :=
    goes_b (HG0.out.trans (F' := fun _ => False) (hW3 ▸ hf1.trans (F' := fun _ => False) hf2 (fun _ e => e.elim)) (fun _ e => e.elim))
  rw [hW2] at hcp G1
  have H1 : Hid _ := G1
  have H4 : Hid _ := hfn
  have H6 : Hid _ := hpb
  clear G1 hf2 hW2 hs2 hs1 hf1 hfn hpb hrl hbin HG0 hW3
  go_wp2_with fail
  refine hcp.mono ?_
  rintro e w2 ⟨hs2, hf2, p2, n2, c2, f2, rfl, hvl, hvb, hn2, hp2n, hp2b⟩
  have G2 : Hid (Goes b (.slice lo S.line.length lc) (.slice no S.name.length nc) (.slice do_ S.data.length dc) (.slice lo S.line.length lc) (.slice no S.name.length nc) (.slice do_ S.data.length dc) w w2) := H1.out.trans ⟨hf2.mono (fun _ e => e.elim), fun _ e => .inl e⟩
  have k5 := conv_own (wx := w2) (w := w2) (fun _ => rfl) hs2.line hi
  simp only at k5
  rw [← H4.out] at k5
  have hNB : IsB (M.fieldName S.line) := fun x hx => hB x (by rw [H4.out] at hx; exact List.mem_of_mem_take hx)
  have q1 := name_test (k := M.sEvent) hNB (by intro x hx; simp [M.sEvent] at hx; omega)
  have q2 := name_test (k := M.sData) hNB (by intro x hx; simp [M.sData] at hx; omega)
  obtain ⟨s1, hs1⟩ : ∃ s1 : ByteArray, s1 = ⟨(M.toBytes (M.fieldName S.line)).toArray⟩ := ⟨_, rfl⟩
  rw [← hs1] at k5 q1 q2
  have q1' : (s1.toList == [101, 118, 101, 110, 116]) = decide (M.fieldName S.line = M.sEvent) := q1
  have q2' : (s1.toList == [100, 97, 116, 97]) = decide (M.fieldName S.line = M.sData) := q2
  obtain ⟨c0, c1, c2', c3, c4, c5, c6, c7, c8, c9, c10, c11, c12⟩ := hs2.cells
  have hfree := hs2.free
  have HE : Hid (M.lineEnd S = M.field { S with at_ := 0 }) := by
    show M.lineEnd S = _
    rw [M.lineEnd, if_pos]; simp [hat, M.reading, hd, ht]
  have HS : Hid _ := hs2
  have HV : Hid ((M.fieldValue S.line).length = n2) := hvl
  have hn2b : n2 ≤ 65536 := by have := value_le S.line; have := HV.out; omega
  have HP : Hid _ := hp2b
  clear c0 c1 c2' c3 c4 c5 c6 c7 c12 q1 q2 hs2 hs1 hf2 hcp H1 H4 hp2b hvl hat hd ht hNB
  obtain ⟨i0, hi5, hi0, hi1, hi2⟩ := info_parts Tryd.info5
  by_cases he : M.fieldName S.line = M.sEvent
  · rw [decide_eq_true he] at q1'
    have HE' : Hid (M.field { S with at_ := 0 } = { S with at_ := 0, name := M.fieldValue S.line, line := [] }) := by
      show M.field _ = _
      rw [M.field, if_pos he]
    clear he q2' c10 c11
    have own0 := own_cut0 HS.out.name
    obtain ⟨a2, rfl⟩ | rfl : (∃ a, p2 = some a) ∨ p2 = none := by cases p2; exact .inr rfl; exact .inl ⟨_, rfl⟩
    · have hnews := BIn.news (xs := M.fieldValue S.line) HV.out hvb
      go_wp2_with (at_builtin; refine wpList_append_own_at _ rfl (.tmp 48) (.tmp 49) 22 rfl 0 5 i0 (.int .u8 0) 1 1 Tryd.underlying22 hi5 hi0 hi1 hi2 rfl (by decide) _ 0 (ubs []) rfl own0 a2 n2 c2 (ubs (M.fieldValue S.line)) rfl (by rw [ubs_len, HV.out]) hnews (ubs_one _) (by unfold maxLen; omega) (by omega) (Nat.zero_le _) ?_)
      intro v' w3 hown hgrow _ hat
      have eb : (Value.slice no 0 nc).ownBlock = (Value.slice no S.name.length nc).ownBlock := by cases no <;> rfl
      have hb3 := own_kept HS.out hgrow (by rw [eb]; exact own_ne HS.out.blk HS.out.name)
      have hw8 : w3.cell? ⟨b, 8, none⟩ = some (.slice lo S.line.length lc) := by rw [cell_blk hb3]; rfl
      have hw9 : w3.cell? ⟨b, 9, none⟩ = some (.slice no S.name.length nc) := by rw [cell_blk hb3]; rfl
      have hf3 : ∀ k, w3.frozen? ⟨b, k, none⟩ = false := fun k => free_blk hb3 k
      have R : Hid _ := fin_event HS.out hgrow hown (by simpa using HV.out) hat
      obtain ⟨ao, cap, hv', _⟩ := own_form hown
      clear hown hgrow hat hb3 own0 hnews hvb c8 c9 hfree k5 q1'
      subst hv'
      go_wp2
      go_end0
      exact ⟨rfl, by rw [HE.out, HE'.out]; exact Left.trans G2.out R.out⟩
    · obtain ⟨rfl, rfl⟩ := hp2n rfl
      have hv0 : M.fieldValue S.line = [] := List.eq_nil_of_length_eq_zero HV.out
      have R : Hid _ := fin_event (m := 0) (val := M.fieldValue S.line) HS.out (World.grownBy_refl _ _) (by rw [hv0]; exact own0) HV.out (.inl rfl)
      clear hv0
      go_wp2_with (at_builtin; refine wpList_append_own_none rfl (.tmp 48) (.tmp 49) 22 rfl 0 5 i0 1 Tryd.underlying22 hi5 _ 0 (ubs []) rfl own0 rfl ?_)
      go_wp2
      go_end0
      exact ⟨rfl, by rw [HE.out, HE'.out]; exact Left.trans G2.out R.out⟩
  · rw [decide_eq_false he] at q1'
    by_cases hda : M.fieldName S.line = M.sData
    · rw [decide_eq_true hda] at q2'
      have HE' : Hid (M.field { S with at_ := 0 } = { S with at_ := 0, data := S.data ++ M.fieldValue S.line ++ [10], hasData := true, line := [] }) := by
        show M.field _ = _
        rw [M.field, if_neg he, if_pos hda]
      clear he hda c9
      have own0 := HS.out.data
      simp only at own0
      obtain ⟨a2, rfl⟩ | rfl : (∃ a, p2 = some a) ∨ p2 = none := by cases p2; exact .inr rfl; exact .inl ⟨_, rfl⟩
      · have hnews := BIn.news (xs := M.fieldValue S.line) HV.out hvb
        go_wp2_with (at_builtin; refine wpList_append_own_at _ rfl (.tmp 59) (.tmp 60) 22 rfl 0 5 i0 (.int .u8 0) 1 1 Tryd.underlying22 hi5 hi0 hi1 hi2 rfl (by decide) _ S.data.length (ubs S.data) rfl own0 a2 n2 c2 (ubs (M.fieldValue S.line)) rfl (by rw [ubs_len, HV.out]) hnews (ubs_one _) (by unfold maxLen; omega) (by omega) (Nat.zero_le _) ?_)
        intro v1 w3 hown hgrow _ hat
        rw [ubs_app] at hown
        have own1 := hown.alloc (.cells #[.int .u8 10] 5)
        clear hnews hvb own0 k5 q1' q2'
        go_wp2_with (at_builtin; refine wpList_append_own_at _ rfl (.tmp 61) (.tmp 62) 22 rfl 0 5 i0 (.int .u8 0) 1 1 Tryd.underlying22 hi5 hi0 hi1 hi2 rfl (by decide) _ (S.data.length + n2) (ubs (S.data ++ M.fieldValue S.line)) rfl own1 ⟨w3.heap.size, 0, none⟩ 1 1 (ubs [10]) rfl rfl (cell_one_new _ _ _) (ubs_one _) (by unfold maxLen; omega) (by omega) (Nat.zero_le _) ?_)
        intro v2 w4 hown4 hgrow4 _ hat4
        have hm4 : S.data.length + (M.fieldValue S.line).length + 1 = S.data.length + n2 + 1 := by rw [HV.out]
        have R : Hid _ := fin_data HS.out hgrow hat hgrow4 hown4 hm4 hat4
        have hb4 := data_blk HS.out hgrow hat hgrow4
        have hw8 : w4.cell? ⟨b, 8, none⟩ = some (.slice lo S.line.length lc) := by rw [cell_blk hb4]; rfl
        have hw10 : w4.cell? ⟨b, 10, none⟩ = some (.slice do_ S.data.length dc) := by rw [cell_blk hb4]; rfl
        have hw11 : w4.cell? ⟨b, 11, none⟩ = some (.bool S.hasData) := by rw [cell_blk hb4]; rfl
        have hf4 : ∀ k, w4.frozen? ⟨b, k, none⟩ = false := fun k => free_blk hb4 k
        obtain ⟨ao, cap, hv', _⟩ := own_form hown4
        clear hown4 hgrow4 hat4 hown hgrow hat hb4 own1 c8 c10 c11 hfree hm4
        subst hv'
        go_wp2
        go_end0
        exact ⟨rfl, by rw [HE.out, HE'.out]; exact Left.trans G2.out R.out⟩
      · obtain ⟨rfl, rfl⟩ := hp2n rfl
        have hv0 : M.fieldValue S.line = [] := List.eq_nil_of_length_eq_zero HV.out
        have own1 := own0.alloc (.cells #[.int .u8 10] 5)
        go_wp2_with (first | (at_builtin; refine wpList_append_own_none rfl (.tmp 59) (.tmp 60) 22 rfl 0 5 i0 1 Tryd.underlying22 hi5 _ S.data.length (ubs S.data) rfl own0 rfl ?_) | (at_builtin; refine wpList_append_own_at _ rfl (.tmp 61) (.tmp 62) 22 rfl 0 5 i0 (.int .u8 0) 1 1 Tryd.underlying22 hi5 hi0 hi1 hi2 rfl (by decide) _ S.data.length (ubs S.data) rfl own1 ⟨w2.heap.size, 0, none⟩ 1 1 (ubs [10]) rfl rfl (cell_one_new _ _ _) (ubs_one _) (by unfold maxLen; omega) (by omega) (Nat.zero_le _) ?_))
        intro v2 w4 hown4 hgrow4 _ hat4
        have hown4' : w4.ownsRow 0 5 1 v2 (S.data.length + 1) (ubs (S.data ++ M.fieldValue S.line) ++ ubs [10]) := by rw [hv0, List.append_nil]; exact hown4
        have hm4 : S.data.length + (M.fieldValue S.line).length + 1 = S.data.length + 1 := by rw [hv0]; rfl
        have R : Hid _ := fin_data HS.out (World.grownBy_refl _ _) (.inl rfl) hgrow4 hown4' hm4 hat4
        have hb4 := data_blk HS.out (World.grownBy_refl _ _) (.inl rfl) hgrow4
        have hw8 : w4.cell? ⟨b, 8, none⟩ = some (.slice lo S.line.length lc) := by rw [cell_blk hb4]; rfl
        have hw10 : w4.cell? ⟨b, 10, none⟩ = some (.slice do_ S.data.length dc) := by rw [cell_blk hb4]; rfl
        have hw11 : w4.cell? ⟨b, 11, none⟩ = some (.bool S.hasData) := by rw [cell_blk hb4]; rfl
        have hf4 : ∀ k, w4.frozen? ⟨b, k, none⟩ = false := fun k => free_blk hb4 k
        obtain ⟨ao, cap, hv', _⟩ := own_form hown4
        clear hown4 hown4' hgrow4 hat4 hb4 own1 own0 c8 c10 c11 hfree hm4 hv0 hvb k5 q1' q2'
        subst hv'
        go_wp2
        go_end0
        exact ⟨rfl, by rw [HE.out, HE'.out]; exact Left.trans G2.out R.out⟩
    · rw [decide_eq_false hda] at q2'
      have HE' : Hid (M.field { S with at_ := 0 } = { S with at_ := 0, line := [] }) := by
        show M.field _ = _
        rw [M.field, if_neg he, if_neg hda]
      clear he hda
      go_wp2
      go_end0
      exact ⟨rfl, by rw [HE.out, HE'.out]; exact Left.trans G2.out (fin_other HS.out)⟩

theorem line_str {w : World} {b : Nat} {S : M.St} {z : Int} {vl vn vd : Value} (h : Str w b S z vl vn vd) (hl : S.line.length ≤ 65536) (hdl : S.data.length ≤ 65536) (hB : IsB S.line) :
    Calls Tryd.prog 22 #[.pointer (some ⟨b, 0, none⟩)] w fun e w' => e = .returned (.tuple #[]) ∧ Left b vl vn vd w (M.lineEnd S) w' := by
  by_cases hk : (S.at_ == 3 && M.reading S) = true
  · have hk' := hk
    simp only [M.reading, Bool.and_eq_true, Bool.not_eq_true', beq_iff_eq] at hk'
    exact line_yes h hk'.1 hk'.2.1 hk'.2.2 hl hdl hB
  · obtain ⟨c0, c1, c2, c3, c4, c5, c6, c7, c8, c9, c10, c11, c12⟩ := h.cells
    refine (line_no b _ _ _ w c0 c6 c7 h.free (by simpa [M.reading] using hk)).mono ?_
    rintro e w' ⟨rfl, rfl⟩
    refine ⟨rfl, ?_⟩
    rw [M.lineEnd, if_neg hk]
    exact h.wrote (z' := z) (vl' := vl) (vn' := vn) (vd' := vd) (Fr.set_b (Fr.b0 b w) _) ((blk_set h.blk).trans (by simp [blkOf])) h.size h.line h.name h.data (.inr rfl) (.inr rfl) (.inr rfl)
end Go.Proofs.Qxb6602599aDoor
