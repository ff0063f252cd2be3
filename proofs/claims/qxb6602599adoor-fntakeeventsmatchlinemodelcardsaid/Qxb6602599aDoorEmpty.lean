import Derived.Test.Qxb6602599aDoorKeep
import Derived.BigRegion
import Derived.BigQuiet
import Derived.Deep.QuietTactic
import Derived.Laws.BytesArg
import Derived.Lib.Bytes
namespace Go.Proofs.Qxb6602599aDoor
open Go.RowKit
open Go

set_option maxHeartbeats 800000 in
theorem empty_no (b : Nat) (d t hd pe : Bool) (ln dn lc dc : Nat) (lo do_ : Option Addr) (v12 : Value) (w : World) (c1 : w.cell? ⟨b, 1, none⟩ = some (.bool pe)) (c6 : w.cell? ⟨b, 6, none⟩ = some (.bool d)) (c7 : w.cell? ⟨b, 7, none⟩ = some (.bool t))
    (c9 : w.cell? ⟨b, 9, none⟩ = some (.slice lo ln lc)) (c10 : w.cell? ⟨b, 10, none⟩ = some (.slice do_ dn dc)) (c11 : w.cell? ⟨b, 11, none⟩ = some (.bool hd)) (c12 : w.cell? ⟨b, 12, none⟩ = some v12) (f0 : ∀ k, w.frozen? ⟨b, k, none⟩ = false)
    (h : ((!d && !t) && hd) = false) :
    Calls Tryd.prog 19 #[.pointer (some ⟨b, 0, none⟩)] w fun e w' => e = .returned (.bool pe) ∧ ∃ q,
      w' = (sets b w [(9, (.slice lo 0 lc)), (10, (.slice do_ 0 dc)), (11, (.bool false)), (12, (.int .i64 0)), (1, (.bool false))]).drewN q := by
  have hr := reading_any b d t w c6 c7
  cases hrd : (!d && !t)
  · rw [hrd] at hr
    go_enter Tryd.func19, Tryd.ntmps19
    go_wp2_with (go_at_call 24; refine hr.mono ?_; rintro e w' ⟨rfl, rfl⟩)
    go_region
    go_wp2
    go_ret
    exact ⟨rfl, 1, rfl⟩
  · rw [hrd] at hr h
    have h11 : hd = false := by simpa using h
    subst h11
    go_enter Tryd.func19, Tryd.ntmps19
    go_wp2_with (go_at_call 24; refine hr.mono ?_; rintro e w' ⟨rfl, rfl⟩)
    go_region
    go_wp2
    go_ret
    exact ⟨rfl, 1, rfl⟩

theorem conv_own {w wx : World} (hc : ∀ a, wx.cell? a = w.cell? a) {ao : Option Addr} {n m cap : Nat} {xs : List Int} (h : w.ownsRow 0 5 1 (.slice ao n cap) n (ubs xs)) (hm : m ≤ n) :
    (convert 22 9 (.slice ao m cap)).run Tryd.prog wx = .ok (.string ⟨(M.toBytes (xs.take m)).toArray⟩) wx := by
  have hlen : xs.length = n := by have := h.1; simpa [ubs] using this
  rcases h.2 with ⟨e, rfl⟩ | ⟨g, cap', cur, e, _, hh, hcap, _, hcs, htake⟩
  · cases e
    rw [run_convert_bytes_nil wx 22 5 Tryd.underlying22 Tryd.underlying5 m 0 9 Tryd.underlying9]
    have : xs = [] := List.eq_nil_of_length_eq_zero hlen
    subst this
    simp [M.toBytes]
    rfl
  · cases e
    rw [run_convert_bytes_arg wx 22 5 Tryd.underlying22 Tryd.underlying5 g 0 m cap (xs.take m) (by simp; omega) ?_ 9 Tryd.underlying9]
    · rfl
    · intro i hi
      rw [hc, cell_of_row w g (0 + i) cur 5 (0, 0) hh]
      have h1 : (ubs xs)[i]? = some (.int .u8 (xs.getD i 0)) := by
        have : i < xs.length := by omega
        simp [ubs, List.getD, this]
      have h2 : (cur.toList.take (n * 1))[i]? = some (.int .u8 (xs.getD i 0)) := by rw [htake]; exact h1
      rw [List.getElem?_take] at h2
      split at h2
      · rw [Nat.zero_add]
        have h3 : i < m := hi
        simp only [List.getD, List.getElem?_take, h3, if_true]
        simpa [List.getD] using h2
      · cases h2

theorem drew2 (x : World) : x.drew.drew = x.drewN 2 := rfl

set_option maxHeartbeats 800000 in
theorem empty_yes (b : Nat) (pe : Bool) (ln dn lc dc : Nat) (lo do_ : Option Addr) (v4 v5 v8 v12 : Value) (s1 s2 : ByteArray) (w : World) (c1 : w.cell? ⟨b, 1, none⟩ = some (.bool pe)) (c6 : w.cell? ⟨b, 6, none⟩ = some (.bool false)) (c7 : w.cell? ⟨b, 7, none⟩ = some (.bool false))
    (c4 : w.cell? ⟨b, 4, none⟩ = some v4) (c5 : w.cell? ⟨b, 5, none⟩ = some v5) (c8 : w.cell? ⟨b, 8, none⟩ = some v8)
    (c9 : w.cell? ⟨b, 9, none⟩ = some (.slice lo ln lc)) (c10 : w.cell? ⟨b, 10, none⟩ = some (.slice do_ dn dc)) (c11 : w.cell? ⟨b, 11, none⟩ = some (.bool true)) (c12 : w.cell? ⟨b, 12, none⟩ = some v12) (f0 : ∀ k, w.frozen? ⟨b, k, none⟩ = false)
    (hd' : dn ≤ dc) (hd1 : 1 ≤ dn) (hdb : dn ≤ 1048576) (k1' : (convert 22 9 (.slice lo ln lc)).run Tryd.prog w.drew = .ok (.string s1) w.drew)
    (k2' : (convert 22 9 (.slice do_ (dn - 1) dc)).run Tryd.prog w.drew = .ok (.string s2) w.drew) (Q : World → Prop)
    (q1 : s1.toList.isEmpty = false → Q ((sets b w [(4, (.string s1)), (5, (.string s2)), (6, (.bool true)), (8, (.slice none 0 0)), (9, (.slice none 0 0)), (10, (.slice none 0 0)), (9, (.slice none 0 0)), (10, (.slice none 0 0)), (11, (.bool false)), (12, (.int .i64 0)), (1, (.bool false))]).drew.drew))
    (q2 : s1.toList.isEmpty = true → Q ((sets b w [(4, (.string s1)), (5, (.string s2)), (4, (.string ⟨#[109, 101, 115, 115, 97, 103, 101]⟩)), (6, (.bool true)), (8, (.slice none 0 0)), (9, (.slice none 0 0)), (10, (.slice none 0 0)), (9, (.slice none 0 0)), (10, (.slice none 0 0)), (11, (.bool false)), (12, (.int .i64 0)), (1, (.bool false))]).drew.drew)) :
    Calls Tryd.prog 19 #[.pointer (some ⟨b, 0, none⟩)] w fun e w' => e = .returned (.bool pe) ∧ Q w' := by
  have hr := reading_any b false false w c6 c7
  have hdi : (1 : Int) ≤ (dn : Int) := by omega
  have hdj : (dn : Int) ≤ (dc : Int) := by omega
  have Q1 : Hid _ := q1
  have Q2 : Hid _ := q2
  clear q1 q2
  cases he : s1.toList.isEmpty
  · go_enter Tryd.func19, Tryd.ntmps19
    go_wp2_with (go_at_call 24; refine hr.mono ?_; rintro e w' ⟨rfl, rfl⟩)
    go_region
    go_wp2
    go_region
    go_wp2
    go_ret
    exact ⟨rfl, Q1.out he⟩
  · go_enter Tryd.func19, Tryd.ntmps19
    go_wp2_with (go_at_call 24; refine hr.mono ?_; rintro e w' ⟨rfl, rfl⟩)
    go_region
    go_wp2
    go_region
    go_wp2
    go_ret
    exact ⟨rfl, Q2.out he⟩

theorem own_cut0 {w : World} {ao : Option Addr} {n cap : Nat} {xs : List Value} (h : w.ownsRow 0 5 1 (.slice ao n cap) n xs) : w.ownsRow 0 5 1 (.slice ao 0 cap) 0 [] := by
  rcases h.2 with ⟨e, _⟩ | ⟨g, cap', cur, e, hb, hh, hcap, hm, hcs, _⟩
  · cases e; exact World.ownsRow_nil _ _ _ _
  · cases e; exact ⟨by simp, .inr ⟨g, cap, cur, rfl, hb, hh, Nat.zero_le _, hm, hcs, by simp⟩⟩

theorem puts_a (S : M.St) (z : Int) (vl vn vd : Value) (s1 s2 : List UInt8) : puts (blkOf S z vl vn vd) [(4, (.string ⟨s1.toArray⟩)), (5, (.string ⟨s2.toArray⟩)), (6, (.bool true)), (8, (.slice none 0 0)), (9, (.slice none 0 0)), (10, (.slice none 0 0)), (9, (.slice none 0 0)), (10, (.slice none 0 0)), (11, (.bool false)), (12, (.int .i64 0)), (1, (.bool false))]
   = blkOf { S with fname := s1, fdata := s2, disp := true, line := [], name := [], data := [], hasData := false, size := 0, pending := false } 0 (.slice none 0 0) (.slice none 0 0) (.slice none 0 0) := by
  simp [puts, blkOf]
theorem puts_b (S : M.St) (z : Int) (vl vn vd : Value) (s1 s2 : List UInt8) : puts (blkOf S z vl vn vd) [(4, (.string ⟨s1.toArray⟩)), (5, (.string ⟨s2.toArray⟩)), (4, (.string ⟨#[109, 101, 115, 115, 97, 103, 101]⟩)), (6, (.bool true)), (8, (.slice none 0 0)), (9, (.slice none 0 0)), (10, (.slice none 0 0)), (9, (.slice none 0 0)), (10, (.slice none 0 0)), (11, (.bool false)), (12, (.int .i64 0)), (1, (.bool false))]
   = blkOf { S with fname := M.sMessage, fdata := s2, disp := true, line := [], name := [], data := [], hasData := false, size := 0, pending := false } 0 (.slice none 0 0) (.slice none 0 0) (.slice none 0 0) := by
  simp [puts, blkOf, M.sMessage]
theorem puts_c (S : M.St) (z : Int) (vl vn vd vn' vd' : Value) : puts (blkOf S z vl vn vd) [(9, vn'), (10, vd'), (11, (.bool false)), (12, (.int .i64 0)), (1, (.bool false))]
   = blkOf { S with name := [], data := [], hasData := false, size := 0, pending := false } 0 vl vn' vd' := by
  simp [puts, blkOf]

theorem empty_str {w : World} {b : Nat} {S : M.St} {z : Int} {vl vn vd : Value} (h : Str w b S z vl vn vd) (hne : M.reading S = true → S.hasData = true → S.data ≠ []) (hdl : S.data.length ≤ 65536) :
    Calls Tryd.prog 19 #[.pointer (some ⟨b, 0, none⟩)] w fun e w' => e = .returned (.bool S.pending) ∧ Left b vl vn vd w (M.emptyLine S) w' := by
  obtain ⟨c0, c1, c2, c3, c4, c5, c6, c7, c8, c9, c10, c11, c12⟩ := h.cells
  obtain ⟨no, nc, rfl, hnc, _⟩ := own_form h.name
  obtain ⟨do_, dc, rfl, hdc, _⟩ := own_form h.data
  by_cases hk : (M.reading S && S.hasData) = true
  · have hk' := hk
    simp only [M.reading, Bool.and_eq_true, Bool.not_eq_true'] at hk'
    obtain ⟨⟨ed, et⟩, eh⟩ := hk'
    have hne' := hne (by simp [M.reading, ed, et]) eh
    have hpos : 1 ≤ S.data.length := by cases hd : S.data; exact absurd hd hne'; simp
    rw [ed] at c6; rw [et] at c7; rw [eh] at c11
    have k1 := conv_own (wx := w.drew) (w := w) (fun _ => rfl) h.name (Nat.le_refl _)
    have k2 := conv_own (wx := w.drew) (w := w) (fun _ => rfl) h.data (m := S.data.length - 1) (by omega)
    rw [List.take_length] at k1
    refine empty_yes b S.pending S.name.length S.data.length nc dc no do_ _ _ _ _ _ _ w c1 c6 c7 c4 c5 c8 c9 c10 c11 c12 h.free hdc hpos (by omega) k1 k2 _ ?_ ?_
    · intro he
      have hn : M.named (M.toBytes S.name) = M.toBytes S.name := by
        rw [M.named, if_neg]
        intro e
        rw [Lib.toList_data, e] at he
        simp at he
      rw [M.emptyLine, if_pos hk, hn, List.dropLast_eq_take, drew2]
      exact h.wrote_sets (z' := 0) (vl' := .slice none 0 0) (vn' := .slice none 0 0) (vd' := .slice none 0 0) _ 2 (puts_a _ _ _ _ _ _ _) (fun _ => rfl) (World.ownsRow_nil _ _ _ _) (World.ownsRow_nil _ _ _ _) (World.ownsRow_nil _ _ _ _) (.inl rfl) (.inl rfl) (.inl rfl)
    · intro he
      have hn : M.named (M.toBytes S.name) = M.sMessage := by
        rw [M.named, if_pos]
        have := Lib.toList_data ⟨(M.toBytes S.name).toArray⟩
        rw [this] at he
        simpa using he
      rw [M.emptyLine, if_pos hk, hn, List.dropLast_eq_take, drew2]
      exact h.wrote_sets (z' := 0) (vl' := .slice none 0 0) (vn' := .slice none 0 0) (vd' := .slice none 0 0) _ 2 (puts_b _ _ _ _ _ _ _) (fun _ => rfl) (World.ownsRow_nil _ _ _ _) (World.ownsRow_nil _ _ _ _) (World.ownsRow_nil _ _ _ _) (.inl rfl) (.inl rfl) (.inl rfl)
  · rw [M.emptyLine, if_neg hk]
    refine (empty_no b S.disp S.tooLong S.hasData S.pending S.name.length S.data.length nc dc no do_ _ w c1 c6 c7 c9 c10 c11 c12 h.free (by simpa [M.reading] using hk)).mono ?_
    rintro e w' ⟨rfl, q, rfl⟩
    refine ⟨rfl, ?_⟩
    refine h.wrote_sets (z' := 0) (vl' := vl) (vn' := .slice no 0 nc) (vd' := .slice do_ 0 dc) _ q (puts_c _ _ _ _ _ _ _) (fun _ => rfl) h.line (own_cut0 h.name) (own_cut0 h.data) (.inr rfl) (.inr ?_) (.inr ?_)
    · cases no <;> rfl
    · cases do_ <;> rfl
end Go.Proofs.Qxb6602599aDoor
