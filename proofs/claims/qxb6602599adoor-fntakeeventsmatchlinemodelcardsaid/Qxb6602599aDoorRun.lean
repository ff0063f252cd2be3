import Derived.Test.Qxb6602599aDoorTake
namespace Go.Proofs.Qxb6602599aDoor
open Go.RowKit
open Go

set_option maxHeartbeats 800000 in
theorem take_zero {w : World} {b : Nat} {S : M.St} {z : Int} {vl vn vd : Value} (h : Str w b S z vl vn vd) (hI : M.Inv S) (p : Option Addr) (c : Nat) :
    Calls Tryd.prog 14 #[.pointer (some ⟨b, 0, none⟩), .slice p 0 c] w fun e w' => e = .returned (.tuple #[.int .i64 0, .bool false]) ∧ Left b vl vn vd w S w' := by
  have c3 := h.cells.2.2.2.1
  cases hg : S.begun
  · rw [hg] at c3
    have hsk := skip_zero h p c hI.bom2
    clear h hI
    go_enter Tryd.func14, Tryd.ntmps14
    go_wp2_with (go_at_call 18; refine hsk.mono ?_; rintro e w1 ⟨rfl, hl⟩)
    refine wp_loop_rounds 1 ?_
    rw [rounds_succ]
    have HL : Hid _ := hl
    clear hl hsk c3
    go_wp2
    go_ret2
    exact ⟨rfl, HL.out⟩
  · rw [hg] at c3
    have HL : Hid (Left b vl vn vd w S w) := Left.refl h
    clear h hI
    go_enter Tryd.func14, Tryd.ntmps14
    go_wp2
    refine wp_loop_rounds 1 ?_
    rw [rounds_succ]
    go_wp2
    go_ret2
    exact ⟨rfl, HL.out⟩

def i64s (xs : List Int) : List Value := xs.map (Value.int .i64)

structure RunSt (w : World) (b : Nat) (vl vn vd ends : Value) (wr : World) (Sc : M.St) (v : Value) (es : List Int) : Prop where
  str : ∃ z1 l1 n1 d1, Str wr b Sc z1 l1 n1 d1 ∧ ∀ k, Foot b l1 n1 d1 k → Foot b vl vn vd k ∨ w.heap.size ≤ k
  own : wr.ownsRow 0 3 1 v es.length (i64s es)
  ownf : ∀ k, v.ownBlock = some k → ends.ownBlock = some k ∨ w.heap.size ≤ k
  fr : Fr (fun k => Foot b vl vn vd k ∨ ends.ownBlock = some k) w wr

theorem own_notfoot {w : World} {b : Nat} {S : M.St} {z : Int} {vl vn vd v : Value} {n : Nat} {xs : List Value} (h : Str w b S z vl vn vd) (ho : w.ownsRow 0 3 1 v n xs) : ∀ k, v.ownBlock = some k → ¬ Foot b vl vn vd k := by
  intro k hk hf
  rcases ho.2 with ⟨rfl, _⟩ | ⟨g, cap, cur, rfl, _, hh, _⟩
  · cases hk
  · simp [Value.ownBlock] at hk
    subst hk
    have key : ∀ {u : Value} {m : Nat} {ys : List Value}, w.ownsRow 0 5 1 u m ys → u.ownBlock = some g → False := by
      intro u m ys hu hg
      rcases hu.2 with ⟨rfl, _⟩ | ⟨g', cap', cur', rfl, _, hh', _⟩
      · cases hg
      · simp [Value.ownBlock] at hg
        subst hg
        rw [hh] at hh'
        simp at hh'
    rcases hf with e | e | e | e
    · subst e
      rw [h.blk] at hh
      simp at hh
    · exact key h.line e
    · exact key h.name e
    · exact key h.data e

theorem RunSt.took {w : World} {b : Nat} {vl vn vd ends : Value} {wr w1 : World} {Sc S' : M.St} {v : Value} {es : List Int} {z1 : Int} {l1 n1 d1 : Value} (h : RunSt w b vl vn vd ends wr Sc v es)
    (hs : Str wr b Sc z1 l1 n1 d1) (hf : ∀ k, Foot b l1 n1 d1 k → Foot b vl vn vd k ∨ w.heap.size ≤ k) (hl : Left b l1 n1 d1 wr S' w1) : RunSt w b vl vn vd ends w1 S' v es := by
  obtain ⟨z2, l2, n2, d2, hs2, hg2⟩ := hl
  refine ⟨⟨z2, l2, n2, d2, hs2, fun k hk => ?_⟩, hg2.fr.owns h.own (own_notfoot hs h.own), h.ownf, h.fr.trans hg2.fr (fun k hk => ?_)⟩
  · rcases hg2.foot k hk with e | e
    · exact hf k e
    · exact .inr (Nat.le_trans h.fr.size e)
  · rcases hf k hk with e | e
    · exact .inl (.inl e)
    · exact .inr e

theorem RunSt.appended {w : World} {b : Nat} {vl vn vd ends : Value} {wr w2 : World} {Sc : M.St} {v v' : Value} {es : List Int} {x : Int} {o : Obj} {m : Nat} (h : RunSt w b vl vn vd ends wr Sc v es)
    (hg : (wr.alloc o).grownBy w2 v.ownBlock) (ho : w2.ownsRow 0 3 1 v' m (i64s es ++ [.int .i64 x])) (hm : es.length + 1 = m) (hat : v'.ownBlock = v.ownBlock ∨ v'.ownBlock = some (wr.heap.size + 1)) : RunSt w b vl vn vd ends w2 Sc v' (es ++ [x]) := by
  obtain ⟨z1, l1, n1, d1, hs, hf⟩ := h.str
  have hfr : Fr (fun k => v.ownBlock = some k) wr w2 := (Fr.alloc (F := fun k => v.ownBlock = some k) wr o).trans (Fr.grown hg (fun k hk => hk)) (fun k hk => .inl hk)
  refine ⟨⟨z1, l1, n1, d1, hs.kept hfr (fun k hk e => own_notfoot hs h.own k e hk), hf⟩, ?_, fun k hk => ?_, h.fr.trans hfr (fun k hk => ?_)⟩
  · have e : (es ++ [x]).length = m := by simp; omega
    rw [e]
    simpa [i64s] using ho
  · rcases hat with e | e
    · exact h.ownf k (e ▸ hk)
    · rw [hk] at e; cases e; exact .inr (by have := h.fr.size; omega)
  · rcases h.ownf k hk with e | e
    · exact .inl (.inr e)
    · exact .inr e

theorem Tryd.info3 : (Tryd.prog.info? 3).map (fun i => (i.zero, i.size, i.bytes)) = some (some (.int .i64 0), 1, 8) := by kernel_rfl

structure RunHand (w : World) (b : Nat) (vl vn vd ends : Value) (m : Int) (pb po n c : Nat) (xs : List Int) : Prop where
  env : Env w m
  low : ∀ k, Foot b vl vn vd k ∨ ends.ownBlock = some k → 3 ≤ k
  cells : ∀ i, i < n → w.cell? ⟨pb, po + i, none⟩ = some (.int .u8 (xs.getD i 0))
  far : ¬ (Foot b vl vn vd pb ∨ ends.ownBlock = some pb)
  len : xs.length = n
  cap : n ≤ c
  max : n ≤ 1048576
  isB : IsB xs
  pos : 0 < n

theorem RunSt.take {w : World} {b : Nat} {vl vn vd ends : Value} {m : Int} {pb po n c : Nat} {xs : List Int} {wr : World} {Sc : M.St} {v : Value} {es : List Int} (h : RunSt w b vl vn vd ends wr Sc v es) (H : RunHand w b vl vn vd ends m pb po n c xs) (hI : M.Inv Sc) (off : Nat) (ho : off < n) :
    Calls Tryd.prog 14 #[.pointer (some ⟨b, 0, none⟩), .slice (some ⟨pb, po + off, none⟩) (n - off) (c - off)] wr fun e w1 => e = .returned (.tuple #[.int .i64 (M.scan Sc (xs.drop off)).2.1, .bool (M.scan Sc (xs.drop off)).2.2]) ∧ RunSt w b vl vn vd ends w1 (M.scan Sc (xs.drop off)).1 v es := by
  obtain ⟨z1, l1, n1, d1, hs, hf⟩ := h.str
  have h3 : 3 ≤ w.heap.size := by have := World.block_lt_of_cell? w _ (H.env.2.2 0 (by omega)).1; simp at this; omega
  have hlt := World.block_lt_of_cell? w _ (H.cells 0 H.pos)
  simp only at hlt
  have hlen := H.len
  have hcap := H.cap
  have hmax := H.max
  refine (take_any hs hI m (H.env.kept h.fr H.low) (fun k hk => ?_) pb (po + off) (n - off) (c - off) (xs.drop off) (by simp; omega) (by omega) (by omega) (fun x hx => H.isB x (List.mem_of_mem_drop hx)) (fun i hi => ?_) (fun _ hk => ?_)).mono ?_
  · rcases hf k hk with e | e
    · exact H.low k (.inl e)
    · omega
  · rw [h.fr.cell (p := ⟨pb, po + off + i, none⟩) hlt H.far, Nat.add_assoc, H.cells (off + i) (by omega)]; simp [List.getD]
  · rcases hf pb hk with e | e
    · exact H.far (.inl e)
    · omega
  · rintro e w1 ⟨rfl, hl⟩
    exact ⟨rfl, h.took hs hf hl⟩

theorem RunSt.zero {w : World} {b : Nat} {vl vn vd ends : Value} {wr : World} {Sc : M.St} {v : Value} {es : List Int} (h : RunSt w b vl vn vd ends wr Sc v es) (hI : M.Inv Sc) (p : Option Addr) (c : Nat) :
    Calls Tryd.prog 14 #[.pointer (some ⟨b, 0, none⟩), .slice p 0 c] wr fun e w1 => e = .returned (.tuple #[.int .i64 0, .bool false]) ∧ RunSt w b vl vn vd ends w1 Sc v es := by
  obtain ⟨z1, l1, n1, d1, hs, hf⟩ := h.str
  exact (take_zero hs hI p c).mono fun e w1 ⟨h1, h2⟩ => ⟨h1, h.took hs hf h2⟩


namespace M
theorem inv_start {S : St} (h : Inv S) (hg : S.begun = true) (h0 : S.at_ = 0) {c : Int} (hc : 0 ≤ c ∧ c < 256) : Inv (stepStart S c).1 := by
  have h3 : S.at_ ≠ 3 := by rw [h0]; decide
  unfold stepStart
  split
  · exact inv_empty (inv_at h h3 (.inr (.inl rfl))) (by show (1 : Int) ≠ 3; decide)
  · split
    · exact inv_empty h h3
    · split
      · exact inv_at h h3 (.inr (.inr rfl))
      · exact inv_keep (inv_field h h3 hg) (fun x hx => by simp at hx; rw [hx]; exact hc)

theorem inv_step1 {S : St} (h : Inv S) (hg : S.begun = true) {c : Int} (hc : 0 ≤ c ∧ c < 256) : Inv (step1 S c).1 := by
  unfold step1
  split
  · rename_i h1
    have h3 : S.at_ ≠ 3 := by rw [h1]; decide
    split
    · exact inv_at h h3 (.inl rfl)
    · exact inv_start (inv_at h h3 (.inl rfl)) hg rfl hc
  · split
    · rename_i h0
      exact inv_start h hg h0 hc
    · split
      · exact inv_at (inv_lineEnd h) (by rw [lineEnd_at]; decide) (.inr (.inl rfl))
      · split
        · exact inv_lineEnd h
        · exact inv_keep h (fun x hx => by simp at hx; rw [hx]; exact hc)

theorem inv_begin {S : St} (h : Inv S) (hg : S.begun = false) : Inv (begin_ S) := by
  unfold begin_
  split
  · have h1 : Inv { S with begun := true } := inv_begun h S.bom h.bom2
    exact inv_bom (inv_keep (inv_field h1 (h.nb hg) rfl) (isB_pre _)) 0 (by omega)
  · exact inv_begun h S.bom h.bom2

theorem inv_step {S : St} (h : Inv S) {c : Int} (hc : 0 ≤ c ∧ c < 256) : Inv (step S c).1 := by
  unfold step
  split
  · rename_i hg
    exact inv_step1 h hg hc
  · rename_i hg
    have hg' : S.begun = false := by simpa using hg
    split
    · split
      · exact inv_begun h 0 (by omega)
      · exact inv_bom h _ (by have := h.bom2; omega)
    · exact inv_step1 (inv_begin h hg') (begin_begun S) hc

theorem inv_scan : ∀ (xs : List Int) {S : St}, Inv S → IsB xs → Inv (scan S xs).1
  | [], S, h, _ => h
  | c :: r, S, h, hB => by
    have h1 := inv_step h (hB c (by simp))
    unfold scan
    split
    · exact h1
    · exact inv_scan r h1 (fun x hx => hB x (List.mem_cons_of_mem _ hx))

theorem inv_evs : ∀ (xs : List Int) {S : St} (k : Int), Inv S → IsB xs → Inv (evs S xs k).2
  | [], S, _, h, _ => h
  | c :: r, S, k, h, hB => by
    have h1 := inv_step h (hB c (by simp))
    unfold evs
    exact inv_evs r (k + 1) h1 (fun x hx => hB x (List.mem_cons_of_mem _ hx))
end M

structure RunRel (S : M.St) (xs : List Int) (base : Int) (es : List Int) (off : Nat) (Sc : M.St) (ec : List Int) : Prop where
  ev : es ++ (M.evs S xs base).1 = ec ++ (M.evs Sc (xs.drop off) (base + off)).1
  st : (M.evs S xs base).2 = (M.evs Sc (xs.drop off) (base + off)).2
  inv : M.Inv Sc

theorem RunRel.start (S : M.St) (xs : List Int) (base : Int) (es : List Int) (h : M.Inv S) : RunRel S xs base es 0 S es := ⟨by simp, by simp, h⟩
theorem RunRel.next {S Sc S' : M.St} {xs : List Int} {base : Int} {es ec : List Int} {off j : Nat} {f : Bool} (h : RunRel S xs base es off Sc ec) (hB : IsB xs) (hs : M.scan Sc (xs.drop off) = (S', j, f)) :
    RunRel S xs base es (off + j) S' (ec ++ if f = true then [base + ((off + j : Nat) : Int)] else []) := by
  have e := M.evs_scan (xs.drop off) Sc (base + off)
  rw [hs] at e
  simp only [List.drop_drop] at e
  have e2 : base + (off : Int) + (j : Int) = base + ((off + j : Nat) : Int) := by omega
  rw [e2] at e
  refine ⟨?_, ?_, ?_⟩
  · rw [h.ev, e, List.append_assoc]
  · rw [h.st, e]
  · have := M.inv_scan (xs.drop off) h.inv (fun x hx => hB x (List.mem_of_mem_drop hx))
    rwa [hs] at this
theorem RunRel.done {S Sc : M.St} {xs : List Int} {base : Int} {es ec : List Int} {off : Nat} (h : RunRel S xs base es off Sc ec) (ho : xs.length ≤ off) : es ++ (M.evs S xs base).1 = ec ∧ (M.evs S xs base).2 = Sc := by
  have e : xs.drop off = [] := List.drop_eq_nil_of_le ho
  have h1 := h.ev
  have h2 := h.st
  rw [e] at h1 h2
  exact ⟨by simpa [M.evs] using h1, by simpa [M.evs] using h2⟩

theorem evs_len : ∀ (xs : List Int) (S : M.St) (k : Int), (M.evs S xs k).1.length ≤ xs.length
  | [], _, _ => by simp [M.evs]
  | c :: r, S, k => by
    have := evs_len r (M.step S c).1 (k + 1)
    unfold M.evs
    split <;> simp only [List.length_cons] <;> omega

set_option maxHeartbeats 3200000 in
set_option maxRecDepth 1000000 in
theorem run_any {w : World} {b : Nat} {S : M.St} {vl vn vd ends : Value} {es : List Int} {m : Int} {pb po n c : Nat} {xs : List Int} (h : RunSt w b vl vn vd ends w S ends es) (hI : M.Inv S) (H : RunHand w b vl vn vd ends m pb po n c xs) (base : Int) (hb0 : 0 ≤ base) (hb1 : base ≤ 1048576) (hes : es.length ≤ 1048576) :
    Calls Tryd.prog 7 #[.pointer (some ⟨b, 0, none⟩), .slice (some ⟨pb, po, none⟩) n c, .int .i64 base, ends] w fun e w' => ∃ v, e = .returned (.tuple #[v, .bool true]) ∧ RunSt w b vl vn vd ends w' (M.evs S xs base).2 v (es ++ (M.evs S xs base).1) := by
  have hmax := H.max
  have hcap := H.cap
  have HH : Hid (RunHand w b vl vn vd ends m pb po n c xs) := H
  have HR : Hid (RunSt w b vl vn vd ends w S ends es ∧ M.Inv S) := ⟨h, hI⟩
  obtain ⟨i0, hi3, hi0, hi1, hi2⟩ := info_parts Tryd.info3
  clear h hI H
  go_enter Tryd.func7, Tryd.ntmps7
  go_wp2
  go_loopg [3, 10, 11] (n + 1) (fun g s3 s10 s11 wx => ∃ (off st : Nat) (Sc : M.St) (ec : List Int), n + 1 - off ≤ g ∧ s10 = .int .i64 off ∧ s11 = .int .i64 st ∧ st ≤ off ∧ off ≤ n ∧ RunSt w b vl vn vd ends wx Sc s3 ec ∧ RunRel S xs base es off Sc ec ∧ ec.length ≤ es.length + off)
  case atStart => exact ⟨0, 0, S, es, by omega, rfl, rfl, by omega, by omega, HR.out.1, RunRel.start S xs base es HR.out.2, by omega⟩
  case round =>
    obtain ⟨off, st, Sc, ec, hg, rfl, rfl, hst, hoff, hrun, hrel2, hec⟩ := hrel
    have hstz : (st : Int) ≤ (n : Int) := by omega
    by_cases ho : off < n
    · have hoz : (off : Int) < (n : Int) := by omega
      have hco : ¬ c = off := by omega
      obtain ⟨S', j, f, hsc⟩ : ∃ S' j f, M.scan Sc (xs.drop off) = (S', j, f) := ⟨_, _, _, rfl⟩
      have htk := hrun.take HH.out hrel2.inv off ho
      rw [hsc] at htk
      have hj1 : 1 ≤ j := by
        have := M.scan_pos (xs.getD off 0) (xs.drop (off + 1)) Sc
        rw [← drop_cons (by rw [HH.out.len]; exact ho), hsc] at this; exact this
      have hj2 : j ≤ n - off := by
        have := M.scan_le (xs.drop off) Sc
        rw [hsc, List.length_drop, HH.out.len] at this; exact this
      have hj3 : f = false → j = n - off := fun hf => by
        have := M.scan_all (xs.drop off) Sc (by rw [hsc]; exact hf)
        rw [hsc, List.length_drop, HH.out.len] at this; exact this
      have HN := hrel2.next HH.out.isB hsc
      have HN' : Hid _ := HN
      have hne : (((n - off : Nat) : Int) == 0) = false := by simp; omega
      have hjz1 : ¬ ((j : Int) < 1) := by omega
      have hjz2 : ¬ (((n - off : Nat) : Int) < (j : Int)) := by omega
      clear hrun hrel2 HN hsc
      cases gk with
      | zero => omega
      | succ g =>
      cases f
      · have hjn := hj3 rfl
        have hjb : ((j : Int) != ((n - off : Nat) : Int)) = false := by simp; omega
        have HJ : Hid (j = n - off) := hjn
        clear hj3 hjn
        go_wp2_with (go_at_call 14; refine htk.mono ?_; rintro e w1 ⟨rfl, hr1⟩)
        have HR1 : Hid _ := hr1
        clear hr1 htk
        go_roundg g
        case measure => omega
        case rel =>
          refine ⟨off + j, st + 1, S', ec, by omega, by first | rfl | simp, by first | rfl | simp, by omega, by omega, HR1.out, ?_, by omega⟩
          have := HN'.out
          rw [if_neg (by decide), List.append_nil] at this
          exact this
      · clear hj3
        go_wp2_with (first | (go_at_call 14; refine htk.mono ?_; rintro e w1 ⟨rfl, hr1⟩; have own1 := hr1.own.alloc (.cells #[.int .i64 (base + ((off : Int) + (j : Int)))] 3)) | (at_builtin; refine wpList_append_own_at _ rfl (.tmp 62) (.tmp 66) 31 rfl 0 3 i0 (.int .i64 0) 1 8 Tryd.underlying31 hi3 hi0 hi1 hi2 rfl (by decide) _ ec.length (i64s ec) rfl own1 ⟨w1.heap.size, 0, none⟩ 1 1 [.int .i64 (base + ((off : Int) + (j : Int)))] rfl rfl (cell_one_new _ _ _) (by intro u hu; simp at hu; subst hu; rfl) (by unfold maxLen; omega) (by omega) (Nat.zero_le _) ?_))
        intro v' w2 hown' hgrow _ hat
        have HR2 : Hid _ := RunSt.appended hr1 hgrow hown' rfl (by first | exact hat | (simp at hat; exact hat))
        obtain ⟨ao, cap, hv', _⟩ := own_form hown'
        clear hown' hgrow hat hr1 own1 htk
        subst hv'
        go_wp2
        go_roundg g
        case measure => omega
        case rel =>
          refine ⟨off + j, st + 1, S', ec ++ [base + ((off : Int) + (j : Int))], by omega, by first | rfl | simp, by first | rfl | simp, by omega, by omega, HR2.out, ?_, by simp; omega⟩
          have := HN'.out
          rw [if_pos (by first | rfl | trivial), show ((off + j : Nat) : Int) = (off : Int) + (j : Int) from by omega] at this
          exact this
    · obtain rfl : off = n := by omega
      have hz := fun p c => hrun.zero hrel2.inv p c
      have hd := hrel2.done (by rw [HH.out.len]; exact Nat.le_refl _)
      have HD : Hid _ := hd
      clear hrun hrel2 hd
      have hzz : off - off = 0 := Nat.sub_self off
      go_wp2_with (go_at_call 14; refine (hz _ _).mono ?_; rintro e w1 ⟨rfl, hr1⟩)
      all_goals
        go_ret2
        refine ⟨_, rfl, ?_⟩
        rw [HD.out.1, HD.out.2]
        exact hr1

set_option maxHeartbeats 800000 in
theorem run_zero {w : World} {b : Nat} {S : M.St} {vl vn vd ends : Value} {es : List Int} (h : RunSt w b vl vn vd ends w S ends es) (hI : M.Inv S) (p : Option Addr) (c : Nat) (base : Int) :
    Calls Tryd.prog 7 #[.pointer (some ⟨b, 0, none⟩), .slice p 0 c, .int .i64 base, ends] w fun e w' => ∃ v, e = .returned (.tuple #[v, .bool true]) ∧ RunSt w b vl vn vd ends w' S v es := by
  have hz := fun p c => h.zero hI p c
  clear h hI
  go_enter Tryd.func7, Tryd.ntmps7
  go_wp2
  refine wp_loop_rounds 1 ?_
  rw [rounds_succ]
  go_wp2_with (go_at_call 14; refine (hz _ _).mono ?_; rintro e w1 ⟨rfl, hr1⟩)
  all_goals
    go_ret2
    exact ⟨_, rfl, hr1⟩
end Go.Proofs.Qxb6602599aDoor
