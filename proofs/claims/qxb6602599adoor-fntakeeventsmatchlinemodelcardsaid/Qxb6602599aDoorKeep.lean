import Derived.Test.Qxb6602599aDoorRows
import Derived.Test.Qxb6602599aDoorMem
import Derived.WalkLawsBesides
namespace Go.Proofs.Qxb6602599aDoor
open Go.RowKit
open Go

theorem Tryd.info5 : (Tryd.prog.info? 5).map (fun i => (i.zero, i.size, i.bytes)) = some (some (.int .u8 0), 1, 1) := by kernel_rfl

set_option maxHeartbeats 400000 in
theorem reading_any (b : Nat) (d t : Bool) (w : World) (hd : w.cell? ⟨b, 6, none⟩ = some (.bool d)) (ht : w.cell? ⟨b, 7, none⟩ = some (.bool t)) :
    Calls Tryd.prog 24 #[.pointer (some ⟨b, 0, none⟩)] w fun e w' => e = .returned (.bool (!d && !t)) ∧ w = w' := by
  cases d
  · go_enter Tryd.func24, Tryd.ntmps24
    go_wp2
    go_ret
    exact ⟨rfl, rfl⟩
  · go_enter Tryd.func24, Tryd.ntmps24
    go_wp2
    go_ret
    exact ⟨rfl, rfl⟩

set_option maxHeartbeats 400000 in
theorem keep_no (b : Nat) (a : Int) (d t : Bool) (v : Value) (w : World) (ha : w.cell? ⟨b, 0, none⟩ = some (.int .u8 a)) (hd : w.cell? ⟨b, 6, none⟩ = some (.bool d)) (ht : w.cell? ⟨b, 7, none⟩ = some (.bool t))
    (h : (a == 3 && (!d && !t)) = false) :
    Calls Tryd.prog 21 #[.pointer (some ⟨b, 0, none⟩), v] w fun e w' => e = .returned (.tuple #[]) ∧ w' = w := by
  by_cases h3 : a = 3
  · subst h3
    have h' : (!d && !t) = false := by simpa using h
    have hr := reading_any b d t w hd ht
    rw [h'] at hr
    clear h h' hd ht
    go_enter Tryd.func21, Tryd.ntmps21
    go_wp2_with (go_at_call 24; refine hr.mono ?_; rintro e w' ⟨rfl, rfl⟩)
    first | go_end0 | refine bodyPost_ret (results_none rfl _ _ _) rfl ?_
    exact ⟨rfl, rfl⟩
  · have h4 : (a != 3) = true := by simpa using h3
    go_enter Tryd.func21, Tryd.ntmps21
    go_wp2_with fail
    first | go_end0 | refine bodyPost_ret (results_none rfl _ _ _) rfl ?_
    exact ⟨rfl, rfl⟩

set_option maxHeartbeats 400000 in
theorem keep_over (b n c : Nat) (p : Option Addr) (z : Int) (w : World) (ha : w.cell? ⟨b, 0, none⟩ = some (.int .u8 3)) (hd : w.cell? ⟨b, 6, none⟩ = some (.bool false)) (ht : w.cell? ⟨b, 7, none⟩ = some (.bool false))
    (hz : w.cell? ⟨b, 12, none⟩ = some (.int .i64 z)) (hl : ∃ v, w.cell? ⟨b, 8, none⟩ = some v) (hn : ∃ v, w.cell? ⟨b, 9, none⟩ = some v) (hdt : ∃ v, w.cell? ⟨b, 10, none⟩ = some v)
    (f0 : ∀ k, w.frozen? ⟨b, k, none⟩ = false) (hz0 : 0 ≤ z) (hz1 : z ≤ 65536) (hn1 : n ≤ 1048576) (ho : 65536 < z + n) :
    Calls Tryd.prog 21 #[.pointer (some ⟨b, 0, none⟩), .slice p n c] w fun e w' => e = .returned (.tuple #[]) ∧
      w' = ((((w.setCell ⟨b, 12, none⟩ (.int .i64 (z + n))).setCell ⟨b, 7, none⟩ (.bool true)).setCell ⟨b, 8, none⟩ (.slice none 0 0)).setCell ⟨b, 9, none⟩ (.slice none 0 0)).setCell ⟨b, 10, none⟩ (.slice none 0 0) := by
  have hr := reading_any b false false w hd ht
  obtain ⟨v8, hl⟩ := hl
  obtain ⟨v9, hn⟩ := hn
  obtain ⟨v10, hdt⟩ := hdt
  go_enter Tryd.func21, Tryd.ntmps21
  go_wp2_with (go_at_call 24; refine hr.mono ?_; rintro e w' ⟨rfl, rfl⟩)
  first | go_end0 | refine bodyPost_ret (results_none rfl _ _ _) rfl ?_
  exact ⟨rfl, rfl⟩

set_option maxHeartbeats 400000 in
theorem keep_app (b n c ll : Nat) (a : Addr) (xs ls : List Int) (vl : Value) (z : Int) (cs : Array Value) (w : World) (hblk : w.heap[b]? = some (.cells cs 30 (0, 0))) (ha : w.cell? ⟨b, 0, none⟩ = some (.int .u8 3)) (hd : w.cell? ⟨b, 6, none⟩ = some (.bool false)) (ht : w.cell? ⟨b, 7, none⟩ = some (.bool false))
    (hz : w.cell? ⟨b, 12, none⟩ = some (.int .i64 z)) (hl : w.cell? ⟨b, 8, none⟩ = some vl)
    (f0 : ∀ k, w.frozen? ⟨b, k, none⟩ = false) (hz0 : 0 ≤ z) (hz1 : z + n ≤ 65536) (hn1 : n ≤ 1048576) (hll : ll ≤ 65536) (hown : w.ownsRow 0 5 1 vl ll (ubs ls)) (hx : xs.length = n) (hin : BIn w (some a) n xs) (hpb : 0 < n → a.block ≠ b) :
    Calls Tryd.prog 21 #[.pointer (some ⟨b, 0, none⟩), .slice (some a) n c] w fun e w' => e = .returned (.tuple #[]) ∧
      ∃ v' w1, w1.ownsRow 0 5 1 v' (ll + n) (ubs ls ++ ubs xs) ∧ (w.setCell ⟨b, 12, none⟩ (.int .i64 (z + n))).grownBy w1 vl.ownBlock ∧ (v'.ownBlock = vl.ownBlock ∨ v'.ownBlock = some w.heap.size) ∧ w' = w1.setCell ⟨b, 8, none⟩ v' := by
  have hr := reading_any b false false w hd ht
  obtain ⟨i0, hi, hi0, hi1, hi2⟩ := info_parts Tryd.info5
  have hown1 : (w.setCell ⟨b, 12, none⟩ (.int .i64 (z + n))).ownsRow 0 5 1 vl ll (ubs ls) := own_set hblk hown
  have hblk1 := blk_set (k := 12) (u := .int .i64 (z + n)) hblk
  have hne := own_ne hblk hown
  have hin1 : BIn (w.setCell ⟨b, 12, none⟩ (.int .i64 (z + n))) (some a) n xs := hin.kept (F := fun k => k = b) (Fr.setCell w (a := ⟨b, 12, none⟩) (by exact rfl) _) (fun a' e h0 => by cases e; exact hpb h0)
  go_enter Tryd.func21, Tryd.ntmps21
  go_wp2_with (first | (go_at_call 24; refine hr.mono ?_; rintro e w' ⟨rfl, rfl⟩) | (at_builtin; refine wpList_append_own_at _ rfl (.tmp 44) (.tmp 45) 22 rfl 0 5 i0 (.int .u8 0) 1 1 Tryd.underlying22 hi hi0 hi1 hi2 rfl (by decide) _ ll (ubs ls) rfl hown1 a n c (ubs xs) rfl (by simp [ubs, hx]) (BIn.news hx hin1) (ubs_one _) (by unfold maxLen; omega) (by omega) (Nat.zero_le _) ?_))
  intro v' w1 hown' hgrow _ hat
  have hb1 : w1.heap[b]? = some (.cells (cs.setIfInBounds 12 (.int .i64 (z + n))) 30 (0, 0)) := (hgrow.block b (lt_of_block hblk1) (fun e => hne e.symm)).trans hblk1
  have hw8 : w1.cell? ⟨b, 8, none⟩ = some vl := by
    rw [cell_blk hb1]; rw [cell_blk hblk] at hl; simpa using hl
  have hf8 : w1.frozen? ⟨b, 8, none⟩ = false := free_blk hb1 8
  have fin : w1.ownsRow 0 5 1 v' (ll + n) (ubs ls ++ ubs xs) ∧ (w.setCell ⟨b, 12, none⟩ (.int .i64 (z + n))).grownBy w1 vl.ownBlock ∧ (v'.ownBlock = vl.ownBlock ∨ v'.ownBlock = some w.heap.size) := ⟨hown', hgrow, hat⟩
  obtain ⟨ao, cap, hv', _⟩ := own_form hown'
  have Fin : Hid _ := fin
  clear hown1 hblk1 hin1 hin hgrow hown' hat hr hb1 fin
  subst hv'
  go_wp2
  go_end0
  exact ⟨rfl, _, w1, Fin.out.1, Fin.out.2.1, Fin.out.2.2, rfl⟩

theorem keep_str {w : World} {b : Nat} {S : M.St} {z : Int} {vl vn vd : Value} (h : Str w b S z vl vn vd) (n c : Nat) (a : Addr) (xs : List Int) (hx : xs.length = n) (hin : BIn w (some a) n xs) (hab : 0 < n → ¬ Foot b vl vn vd a.block)
    (hS : S.size ≤ 65536) (hl : S.line.length ≤ 65536) (hn : n ≤ 1048576) :
    Calls Tryd.prog 21 #[.pointer (some ⟨b, 0, none⟩), .slice (some a) n c] w fun e w' => e = .returned (.tuple #[]) ∧ Left b vl vn vd w (M.keep S xs) w' := by
  obtain ⟨c0, c1, c2, c3, c4, c5, c6, c7, c8, c9, c10, c11, c12⟩ := h.cells
  by_cases hk : (S.at_ == 3 && M.reading S) = true
  · have hk' := hk
    simp only [M.reading, Bool.and_eq_true, Bool.not_eq_true', beq_iff_eq] at hk'
    obtain ⟨e3, ed, et⟩ := hk'
    have ez := h.size et
    rw [e3] at c0; rw [ed] at c6; rw [et] at c7
    by_cases ho : M.maxFirst < S.size + xs.length
    · have ho' : (65536 : Int) < z + n := by unfold M.maxFirst at ho; omega
      refine (keep_over b n c (some a) z w c0 c6 c7 c12 ⟨_, c8⟩ ⟨_, c9⟩ ⟨_, c10⟩ h.free (by omega) (by omega) hn ho').mono ?_
      rintro e w' ⟨rfl, rfl⟩
      refine ⟨rfl, ?_⟩
      rw [M.keep, if_pos hk, if_pos ho]
      refine h.wrote (z' := z + n) (vl' := .slice none 0 0) (vn' := .slice none 0 0) (vd' := .slice none 0 0) (((((Fr.b0 b w).set_b _).set_b _).set_b _).set_b _ |>.set_b _) ?_ (fun e => by cases e) (World.ownsRow_nil _ _ _ _) (World.ownsRow_nil _ _ _ _) (World.ownsRow_nil _ _ _ _) (.inl rfl) (.inl rfl) (.inl rfl)
      rw [blk_set (blk_set (blk_set (blk_set (blk_set h.blk))))]
      rfl
    · have ho' : z + n ≤ (65536 : Int) := by unfold M.maxFirst at ho; omega
      have hxs : (xs.length : Int) = n := by omega
      refine (keep_app b n c S.line.length a xs S.line vl z _ w h.blk c0 c6 c7 c12 c8 h.free (by omega) ho' hn hl h.line hx hin (fun h0 e => hab h0 (.inl e))).mono ?_
      rintro e w' ⟨rfl, v', w1, hown, hgrow, hat, rfl⟩
      refine ⟨rfl, ?_⟩
      rw [M.keep, if_pos hk, if_neg ho]
      have hlt := h.lt
      have hF : Fr (Foot b vl vn vd) w w1 := (Fr.setCell w (a := ⟨b, 12, none⟩) (F := Foot b vl vn vd) (.inl rfl) _).trans (F' := Foot b vl vn vd) (Fr.grown hgrow (fun k hk => .inr (.inl hk))) (fun i hi => .inl hi)
      have hsz : (w.setCell ⟨b, 12, none⟩ (.int .i64 (z + n))).heap.size = w.heap.size := by simp [World.setCell]
      have hb1 : w1.heap[b]? = _ := (hgrow.block b (by rw [hsz]; exact hlt) (fun e => own_ne h.blk h.line e.symm)).trans (blk_set h.blk)
      have hnm : w1.ownsRow 0 5 1 vn S.name.length (ubs S.name) := (own_set h.blk h.name).kept hgrow (by
        cases e : vn.ownBlock with
        | none => exact .inl rfl
        | some k => exact .inr (fun e' => h.ln k e'.symm e))
      have hdt : w1.ownsRow 0 5 1 vd S.data.length (ubs S.data) := (own_set h.blk h.data).kept hgrow (by
        cases e : vd.ownBlock with
        | none => exact .inl rfl
        | some k => exact .inr (fun e' => h.ld k e'.symm e))
      have hap : ∀ v : Value, Apart vl v → (∀ k, v.ownBlock = some k → k < w.heap.size) → Apart v' v := by
        intro v hv hlv k h1 h2
        rcases hat with e | e
        · exact hv k (e ▸ h1) h2
        · rw [h1] at e; cases e; exact absurd (hlv _ h2) (Nat.lt_irrefl _)
      rw [ubs_app] at hown
      refine ⟨z + n, v', vn, vd, ⟨?_, fun _ => ?_, ?_, own_set hb1 hnm, own_set hb1 hdt, ?_, ?_, h.nd⟩, ⟨?_, ?_⟩⟩
      · rw [blk_set hb1]; rfl
      · simp only; omega
      · have := own_set (k := 8) (u := v') hb1 hown
        simpa [hx] using this
      · exact hap vn h.ln (fun k hk => (h.name.lt k hk).2)
      · exact hap vd h.ld (fun k hk => (h.data.lt k hk).2)
      · exact hF.trans (Fr.setCell (F := Foot b vl vn vd) w1 (a := ⟨b, 8, none⟩) (.inl rfl) _) (fun i hi => .inl hi)
      · intro k hk
        rcases hk with hk | hk | hk
        · exact .inl (.inl hk)
        · rcases hat with e | e
          · exact .inl (.inr (.inl (e ▸ hk)))
          · rw [hk] at e; cases e; exact .inr (Nat.le_refl _)
        · exact .inl (.inr (.inr hk))
  · rw [M.keep, if_neg hk]
    refine (keep_no b _ _ _ _ w c0 c6 c7 (by simpa [M.reading] using hk)).mono ?_
    rintro e w' ⟨rfl, rfl⟩
    exact ⟨rfl, Left.refl h⟩
end Go.Proofs.Qxb6602599aDoor
