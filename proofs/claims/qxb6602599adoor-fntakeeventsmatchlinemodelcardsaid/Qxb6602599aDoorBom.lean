import Derived.Test.Qxb6602599aDoorEmpty
namespace Go.Proofs.Qxb6602599aDoor
open Go.RowKit
open Go

namespace M
def bomRun (bom : Nat) : List Int → Nat
  | [] => 0
  | c :: r => if bom < 3 ∧ c = bomAt bom then bomRun (bom + 1) r + 1 else 0

def skip (S : St) (xs : List Int) : St :=
  if S.bom + bomRun S.bom xs = 3 then { S with begun := true, bom := 0 }
  else if bomRun S.bom xs < xs.length then begin_ { S with bom := S.bom + bomRun S.bom xs }
  else { S with bom := S.bom + bomRun S.bom xs }

theorem bomRun_hit {bom : Nat} {xs : List Int} {k : Nat} (hk : k < xs.length) (hb : bom < 3) (hc : xs.getD k 0 = bomAt bom) : bomRun bom (xs.drop k) = bomRun (bom + 1) (xs.drop (k + 1)) + 1 := by
  rw [List.drop_eq_getElem_cons hk]
  have : xs[k] = bomAt bom := by rw [← hc]; simp [List.getD, hk]
  rw [bomRun, if_pos ⟨hb, this⟩]
theorem bomRun_miss {bom : Nat} {xs : List Int} {k : Nat} (h : k < xs.length → bom < 3 → ¬ xs.getD k 0 = bomAt bom) : bomRun bom (xs.drop k) = 0 := by
  by_cases hk : k < xs.length
  · rw [List.drop_eq_getElem_cons hk, bomRun, if_neg]
    rintro ⟨hb, hc⟩
    exact h hk hb (by rw [← hc]; simp [List.getD, hk])
  · rw [List.drop_eq_nil_of_le (by omega)]; rfl
end M

theorem Str.setBom {w : World} {b : Nat} {S : M.St} {z : Int} {vl vn vd : Value} (h : Str w b S z vl vn vd) (q j : Nat) : Str ((w.drewN q).setCell ⟨b, 2, none⟩ (.int .i64 j)) b { S with bom := j } z vl vn vd := by
  have hb : (w.drewN q).heap[b]? = some (.cells (blkOf S z vl vn vd) 30 (0, 0)) := h.blk
  refine ⟨(blk_set hb).trans ?_, h.size, own_set hb h.line, own_set hb h.name, own_set hb h.data, h.ln, h.ld, h.nd⟩
  simp [blkOf]

theorem Fr.setBom {a w : World} {b : Nat} (h : Fr (fun i => i = b) a w) (q : Nat) (v : Value) : Fr (fun i => i = b) a ((w.drewN q).setCell ⟨b, 2, none⟩ v) :=
  Fr.set_b (w := w.drewN q) ⟨h.os, h.tape, h.output, h.size, h.block⟩ v

theorem goes_b {w wr : World} {b : Nat} {vl vn vd : Value} (h : Fr (fun i => i = b) w wr) : Goes b vl vn vd vl vn vd w wr := ⟨h.mono (fun _ e => .inl e), fun _ e => .inl e⟩

theorem begin_keep {wr : World} {b : Nat} {S : M.St} {z : Int} {vl vn vd : Value} (h : Str wr b S z vl vn vd) (q m cp : Nat) (s : ByteArray) (hs : s.size = m) (hm : m ≤ 3) (fr : Nat × Nat)
    (hsz : s.data.toList.map (fun x => (x.toNat : Int)) = M.bomPre m) (hS : S.size ≤ 65536) (hl : S.line.length ≤ 65536) :
    Calls Tryd.prog 21 #[.pointer (some ⟨b, 0, none⟩), .slice (some ⟨wr.heap.size, 0, none⟩) m cp]
      (((((wr.drewN q).setCell ⟨b, 3, none⟩ (.bool true)).setCell ⟨b, 0, none⟩ (.int .u8 3)).setCell ⟨b, 1, none⟩ (.bool true)).alloc (.cells (bytesRow s cp) 5 fr)).drew
      fun e w' => e = .returned (.tuple #[]) ∧ Left b vl vn vd wr (M.keep { S with begun := true, at_ := 3, pending := true } (M.bomPre m)) w' := by
  have hb : (wr.drewN q).heap[b]? = some (.cells (blkOf S z vl vn vd) 30 (0, 0)) := h.blk
  have hlt := h.lt
  have hf0 : Fr (fun i => i = b) wr ((((wr.drewN q).setCell ⟨b, 3, none⟩ (.bool true)).setCell ⟨b, 0, none⟩ (.int .u8 3)).setCell ⟨b, 1, none⟩ (.bool true)) :=
    Fr.set_b (Fr.set_b (Fr.set_b (w := wr.drewN q) (Fr.drewN wr q) _) _) _
  have hs0 : Str ((((wr.drewN q).setCell ⟨b, 3, none⟩ (.bool true)).setCell ⟨b, 0, none⟩ (.int .u8 3)).setCell ⟨b, 1, none⟩ (.bool true)) b { S with begun := true, at_ := 3, pending := true } z vl vn vd := by
    refine ⟨(blk_set (blk_set (blk_set hb))).trans ?_, h.size, own_set (blk_set (blk_set hb)) (own_set (blk_set hb) (own_set hb h.line)), own_set (blk_set (blk_set hb)) (own_set (blk_set hb) (own_set hb h.name)), own_set (blk_set (blk_set hb)) (own_set (blk_set hb) (own_set hb h.data)), h.ln, h.ld, h.nd⟩
    simp [blkOf]
  have hsize : ((((wr.drewN q).setCell ⟨b, 3, none⟩ (.bool true)).setCell ⟨b, 0, none⟩ (.int .u8 3)).setCell ⟨b, 1, none⟩ (.bool true)).heap.size = wr.heap.size := by simp [World.setCell, World.drewN]
  generalize hX : ((((wr.drewN q).setCell ⟨b, 3, none⟩ (.bool true)).setCell ⟨b, 0, none⟩ (.int .u8 3)).setCell ⟨b, 1, none⟩ (.bool true)) = X at hf0 hs0 hsize
  have hfa : Fr (fun _ => False) X ((X.alloc (.cells (bytesRow s cp) 5 fr)).drew) := (Fr.alloc (F := fun _ => False) X _).trans (Fr.drew (F := fun _ => False) _) (fun _ e => .inl e)
  have hs1 := hs0.kept hfa (fun _ _ e => e)
  have hcell : ∀ i, i < m → ((X.alloc (.cells (bytesRow s cp) 5 fr)).drew).cell? ⟨wr.heap.size, 0 + i, none⟩ = some (.int .u8 ((M.bomPre m).getD i 0)) := by
    intro i hi
    have hh : ((X.alloc (.cells (bytesRow s cp) 5 fr)).drew).heap[wr.heap.size]? = some (.cells (bytesRow s cp) 5 fr) := by rw [← hsize]; exact heap_alloc_new X _
    rw [cell_of_row _ _ _ _ _ _ hh, ← hsz]
    have hil : i < s.data.toList.length := by rw [← hs] at hi; exact hi
    have h2 : i < s.data.size := by simpa using hil
    rw [bytesRow, Array.getElem?_append_left (by simpa using h2), Nat.zero_add, Array.getElem?_map, List.getD, List.getElem?_map]
    simp [Array.getElem?_eq_getElem h2]
  have hpre : (M.bomPre m).length = m := by rw [← hsz, List.length_map, ← hs]; rfl
  refine (keep_str hs1 m cp ⟨wr.heap.size, 0, none⟩ (M.bomPre m) hpre (fun _ => ⟨_, _, rfl, hcell⟩) (fun _ hk => ?_) hS hl (by omega)).mono ?_
  · have := hs0.footLt _ hk
    rw [hsize] at this
    exact absurd this (Nat.lt_irrefl _)
  · rintro e w' ⟨rfl, hleft⟩
    refine ⟨rfl, Left.trans ?_ hleft⟩
    exact ⟨(hf0.mono (fun _ e => .inl e)).trans hfa (fun _ e => e.elim), fun _ e => .inl e⟩

theorem Left.setBom0 {b : Nat} {vl vn vd : Value} {w w' : World} {S : M.St} (h : Left b vl vn vd w S w') : Left b vl vn vd w { S with bom := 0 } (w'.setCell ⟨b, 2, none⟩ (.int .i64 0)) := by
  obtain ⟨z, ul, un, ud, hs, hg⟩ := h
  exact ⟨z, ul, un, ud, hs.setBom 0 0, hg.trans (goes_b (Fr.set_b (Fr.b0 b w') _))⟩

theorem gcap_ge (w : World) (n o : Nat) (e : TypeId) : n ≤ grownCap w n o e := grownCap_ge w n o e

theorem hit_rel {w wr : World} {b k n : Nat} {S : M.St} {z : Int} {vl vn vd : Value} {xs : List Int} (m j : Nat) (hlt : k < n) (hm : m = S.bom + k) (hx : xs.length = n) (h3 : m < 3) (hj : j = m + 1) (hc : xs.getD k 0 = M.bomAt m)
    (hrun : M.bomRun S.bom xs = k + M.bomRun (S.bom + k) (xs.drop k)) (hs : Str wr b { S with bom := S.bom + k } z vl vn vd) (hf : Fr (fun i => i = b) w wr) (q : Nat) :
    ∃ k1 : Nat, k1 ≤ n ∧ Value.int .i64 ((k : Int) + 1) = .int .i64 k1 ∧ S.bom + k1 ≤ 3 ∧ M.bomRun S.bom xs = k1 + M.bomRun (S.bom + k1) (xs.drop k1) ∧
      Str ((wr.drewN q).setCell ⟨b, 2, none⟩ (.int .i64 (j : Nat))) b { S with bom := S.bom + k1 } z vl vn vd ∧ Fr (fun i => i = b) w ((wr.drewN q).setCell ⟨b, 2, none⟩ (.int .i64 (j : Nat))) := by
  subst hm
  refine ⟨k + 1, by omega, by simp, by omega, ?_, ?_, hf.setBom q _⟩
  · rw [hrun, M.bomRun_hit (by omega) h3 hc, Nat.add_assoc S.bom k 1]; omega
  · have : S.bom + (k + 1) = j := by omega
    rw [this]
    exact hs.setBom q j

theorem miss_run {k : Nat} {S : M.St} {xs : List Int} {m : Nat} (hm : m = S.bom + k) (h : k < xs.length → m < 3 → ¬ xs.getD k 0 = M.bomAt m) (hrun : M.bomRun S.bom xs = k + M.bomRun (S.bom + k) (xs.drop k)) : M.bomRun S.bom xs = k := by
  subst hm
  rw [hrun, M.bomRun_miss h]; rfl

theorem miss_zero {w wr : World} {b k n : Nat} {S : M.St} {z : Int} {vl vn vd : Value} {xs : List Int} (hlt : k < n) (hm : 0 = S.bom + k) (hx : xs.length = n) (hc : ¬ xs.getD k 0 = M.bomAt 0)
    (hrun : M.bomRun S.bom xs = k + M.bomRun (S.bom + k) (xs.drop k)) (hs : Str wr b { S with bom := S.bom + k } z vl vn vd) (hf : Fr (fun i => i = b) w wr) (q : Nat) :
    Ending.returned (.int .i64 (k : Int)) = .returned (.int .i64 (M.bomRun S.bom xs : Nat)) ∧ Left b vl vn vd w (M.skip S xs) ((wr.drewN q).setCell ⟨b, 3, none⟩ (.bool true)) := by
  have hr := miss_run hm (fun _ _ => hc) hrun
  refine ⟨by rw [hr], ?_⟩
  have h0 : S.bom + k = 0 := hm.symm
  rw [M.skip, hr, if_neg (by omega), if_pos (by omega), M.begin_, if_neg (by simp only; omega), h0]
  rw [h0] at hs
  have hb : (wr.drewN q).heap[b]? = _ := hs.blk
  refine ⟨z, vl, vn, vd, ⟨(blk_set hb).trans (by simp [blkOf]), hs.size, own_set hb hs.line, own_set hb hs.name, own_set hb hs.data, hs.ln, hs.ld, hs.nd⟩, goes_b ?_⟩
  exact Fr.set_b (w := wr.drewN q) ⟨hf.os, hf.tape, hf.output, hf.size, hf.block⟩ _

theorem miss_keep {w wr w1 : World} {b k n : Nat} {S : M.St} {vl vn vd : Value} {xs : List Int} (m : Nat) (hlt : k < n) (hm : m = S.bom + k) (hx : xs.length = n) (h0 : 0 < m) (h3 : m < 3) (hc : ¬ xs.getD k 0 = M.bomAt m)
    (hrun : M.bomRun S.bom xs = k + M.bomRun (S.bom + k) (xs.drop k)) (hf : Fr (fun i => i = b) w wr) (hl : Left b vl vn vd wr (M.keep { S with bom := S.bom + k, begun := true, at_ := 3, pending := true } (M.bomPre m)) w1) :
    Ending.returned (.int .i64 (k : Int)) = .returned (.int .i64 (M.bomRun S.bom xs : Nat)) ∧ Left b vl vn vd w (M.skip S xs) (w1.setCell ⟨b, 2, none⟩ (.int .i64 0)) := by
  have hr := miss_run hm (fun _ _ => hc) hrun
  refine ⟨by rw [hr], ?_⟩
  rw [M.skip, hr, if_neg (by omega), if_pos (by omega), M.begin_, if_pos (by simp only; omega)]
  simp only
  rw [← hm] at hl ⊢
  exact Left.trans (goes_b hf) hl.setBom0

theorem short_end {w wr : World} {b k n : Nat} {S : M.St} {z : Int} {vl vn vd : Value} {xs : List Int} (m : Nat) (hk : k ≤ n) (hlt : ¬ k < n) (hm : m = S.bom + k) (hx : xs.length = n) (h3 : m < 3)
    (hrun : M.bomRun S.bom xs = k + M.bomRun (S.bom + k) (xs.drop k)) (hs : Str wr b { S with bom := S.bom + k } z vl vn vd) (hf : Fr (fun i => i = b) w wr) (q : Nat) :
    Ending.returned (.int .i64 (k : Int)) = .returned (.int .i64 (M.bomRun S.bom xs : Nat)) ∧ Left b vl vn vd w (M.skip S xs) (wr.drewN q) := by
  have hr := miss_run hm (fun h1 _ => by omega) hrun
  refine ⟨by rw [hr], ?_⟩
  rw [M.skip, hr, if_neg (by omega), if_neg (by omega)]
  exact ⟨z, vl, vn, vd, hs.kept (Fr.drewN (F := fun _ => False) wr q) (fun _ _ e => e), goes_b ⟨hf.os, hf.tape, hf.output, hf.size, hf.block⟩⟩

theorem full_end {w wr : World} {b k : Nat} {S : M.St} {z : Int} {vl vn vd : Value} {xs : List Int} (hm : 3 = S.bom + k)
    (hrun : M.bomRun S.bom xs = k + M.bomRun (S.bom + k) (xs.drop k)) (hs : Str wr b { S with bom := S.bom + k } z vl vn vd) (hf : Fr (fun i => i = b) w wr) (q : Nat) :
    Ending.returned (.int .i64 (k : Int)) = .returned (.int .i64 (M.bomRun S.bom xs : Nat)) ∧ Left b vl vn vd w (M.skip S xs) (((wr.drewN q).setCell ⟨b, 3, none⟩ (.bool true)).setCell ⟨b, 2, none⟩ (.int .i64 0)) := by
  have hr := miss_run hm (fun _ h => absurd h (by omega)) hrun
  refine ⟨by rw [hr], ?_⟩
  rw [M.skip, hr, if_pos (by omega)]
  have hb : (wr.drewN q).heap[b]? = _ := hs.blk
  refine ⟨z, vl, vn, vd, ⟨(blk_set (blk_set hb)).trans (by simp [blkOf]), hs.size, own_set (blk_set hb) (own_set hb hs.line), own_set (blk_set hb) (own_set hb hs.name), own_set (blk_set hb) (own_set hb hs.data), hs.ln, hs.ld, hs.nd⟩, goes_b ?_⟩
  exact Fr.set_b (Fr.set_b (w := wr.drewN q) ⟨hf.os, hf.tape, hf.output, hf.size, hf.block⟩ _) _

set_option maxHeartbeats 3200000 in
theorem skip_any {w : World} {b : Nat} {S : M.St} {z : Int} {vl vn vd : Value} (h : Str w b S z vl vn vd) (pb po n c : Nat) (xs : List Int) (hx : xs.length = n) (hn : n ≤ 1048576)
    (hc : ∀ i, i < n → w.cell? ⟨pb, po + i, none⟩ = some (.int .u8 (xs.getD i 0))) (hpb : 0 < n → ¬ Foot b vl vn vd pb) (hbom : S.bom ≤ 2) (hS : S.size ≤ 65536) (hl : S.line.length ≤ 65536) :
    Calls Tryd.prog 18 #[.pointer (some ⟨b, 0, none⟩), .slice (some ⟨pb, po, none⟩) n c] w fun e w' => e = .returned (.int .i64 (M.bomRun S.bom xs)) ∧ Left b vl vn vd w (M.skip S xs) w' := by
  have e0 : ((⟨#[239, 187, 191]⟩ : ByteArray)[0]'(by decide)).toNat = 239 := rfl
  have e1 : ((⟨#[239, 187, 191]⟩ : ByteArray)[1]'(by decide)).toNat = 187 := rfl
  have e2 : ((⟨#[239, 187, 191]⟩ : ByteArray)[2]'(by decide)).toNat = 191 := rfl
  have hconv := fun wx s => run_bytes_of_string (P := Tryd.prog) wx 9 22 5 s Tryd.underlying9 Tryd.underlying22 Tryd.underlying5
  have HN : Hid (xs.length = n) := hx
  clear hx
  go_enter Tryd.func18, Tryd.ntmps18
  go_wp2
  go_loopw [5] (fun i wr => ∃ k : Nat, k ≤ n ∧ i = .int .i64 k ∧ S.bom + k ≤ 3 ∧ M.bomRun S.bom xs = k + M.bomRun (S.bom + k) (xs.drop k) ∧ Str wr b { S with bom := S.bom + k } z vl vn vd ∧ Fr (fun i => i = b) w wr) (fun i _ => n - (intOf i).toNat)
  case atStart => exact ⟨0, Nat.zero_le _, rfl, by omega, by simp, h, Fr.b0 _ _⟩
  case round =>
    obtain ⟨k, hk, rfl, hm3, hrun, hstr, hfr⟩ := hrel
    obtain ⟨c0, c1, c2, c3, c4, c5, c6, c7, c8, c9, c10, c11, c12⟩ := hstr.cells
    have hfree := hstr.free
    simp only at c2
    obtain ⟨m, hm⟩ : ∃ m, m = S.bom + k := ⟨_, rfl⟩
    rw [← hm] at c2 hm3
    clear c4 c5 c6 c7 c8 c9 c10 c11 c12
    have H1 : Hid (m = S.bom + k) := hm
    have H2 : Hid (M.bomRun S.bom xs = k + M.bomRun (S.bom + k) (xs.drop k)) := hrun
    have H5 : Hid (Str wr b { S with bom := S.bom + k } z vl vn vd ∧ Fr (fun i => i = b) w wr) := ⟨hstr, hfr⟩
    by_cases hlt : k < n
    · have hlt' : (k : Int) < (n : Int) := by omega
      have hck : wr.cell? ⟨pb, po + k, none⟩ = some (.int .u8 (xs.getD k 0)) := by
        rw [hfr.cell (p := ⟨pb, po + k, none⟩) (World.block_lt_of_cell? w _ (hc k hlt)) (fun e => hpb (by omega) (.inl e))]; exact hc k hlt
      clear hm hrun hc hstr hfr h
      generalize hxk : xs.getD k 0 = xk at hck
      have H4 : Hid (xs.getD k 0 = xk) := hxk
      clear hxk
      obtain rfl | rfl | rfl | rfl : m = 0 ∨ m = 1 ∨ m = 2 ∨ m = 3 := by omega
      · by_cases he : xk = 239
        · subst he
          go_wp2
          go_quiet (fail)
          go_wp2
          go_roundw
          case rel => exact hit_rel 0 1 hlt H1.out HN.out (by omega) rfl (by rw [H4.out]; rfl) H2.out H5.out.1 H5.out.2 _
          case measure => simp [intOf]; omega
        · have he' : (xk == 239) = false := by simpa using he
          go_wp2
          go_quiet (fail)
          go_wp2
          go_ret
          exact miss_zero hlt H1.out HN.out (by rw [H4.out]; exact he) H2.out H5.out.1 H5.out.2 _
      · by_cases he : xk = 187
        · subst he
          go_wp2
          go_quiet (fail)
          go_wp2
          go_roundw
          case rel => exact hit_rel 1 2 hlt H1.out HN.out (by omega) rfl (by rw [H4.out]; rfl) H2.out H5.out.1 H5.out.2 _
          case measure => simp [intOf]; omega
        · have he' : (xk == 187) = false := by simpa using he
          go_wp2
          go_quiet (fail)
          go_wp2_with fail
          refine (begin_keep H5.out.1 _ 1 _ _ rfl (by omega) _ rfl hS hl).mono ?_
          rintro e w1 ⟨rfl, hleft⟩
          obtain ⟨z1, l1, n1, d1, hs1, hg1⟩ := id hleft
          have k2 := hs1.cells.2.2.1
          have f2 := hs1.free 2
          have HL : Hid (Left b vl vn vd wr _ w1) := hleft
          clear hleft hs1 hg1
          go_wp2
          go_ret
          exact miss_keep 1 hlt H1.out HN.out (by omega) (by omega) (by rw [H4.out]; exact he) H2.out H5.out.2 HL.out
      · by_cases he : xk = 191
        · subst he
          go_wp2
          go_quiet (fail)
          go_wp2
          go_roundw
          case rel => exact hit_rel 2 3 hlt H1.out HN.out (by omega) rfl (by rw [H4.out]; rfl) H2.out H5.out.1 H5.out.2 _
          case measure => simp [intOf]; omega
        · have he' : (xk == 191) = false := by simpa using he
          go_wp2
          go_quiet (fail)
          go_wp2_with fail
          refine (begin_keep H5.out.1 _ 2 _ _ rfl (by omega) _ rfl hS hl).mono ?_
          rintro e w1 ⟨rfl, hleft⟩
          obtain ⟨z1, l1, n1, d1, hs1, hg1⟩ := id hleft
          have k2 := hs1.cells.2.2.1
          have f2 := hs1.free 2
          have HL : Hid (Left b vl vn vd wr _ w1) := hleft
          clear hleft hs1 hg1
          go_wp2
          go_ret
          exact miss_keep 2 hlt H1.out HN.out (by omega) (by omega) (by rw [H4.out]; exact he) H2.out H5.out.2 HL.out
      · go_wp2
        go_quiet (fail)
        go_wp2
        go_ret
        exact full_end H1.out H2.out H5.out.1 H5.out.2 _
    · have hlt' : ¬ (k : Int) < (n : Int) := by omega
      have hd : decide ((k : Int) < (n : Int)) = false := by simpa using hlt
      clear hm hrun hc hstr hfr h
      obtain rfl | rfl | rfl | rfl : m = 0 ∨ m = 1 ∨ m = 2 ∨ m = 3 := by omega
      · go_wp2
        go_quiet (fail)
        go_wp2
        go_ret
        exact short_end 0 hk hlt H1.out HN.out (by omega) H2.out H5.out.1 H5.out.2 _
      · go_wp2
        go_quiet (fail)
        go_wp2
        go_ret
        exact short_end 1 hk hlt H1.out HN.out (by omega) H2.out H5.out.1 H5.out.2 _
      · go_wp2
        go_quiet (fail)
        go_wp2
        go_ret
        exact short_end 2 hk hlt H1.out HN.out (by omega) H2.out H5.out.1 H5.out.2 _
      · go_wp2
        go_quiet (fail)
        go_wp2
        go_ret
        exact full_end H1.out H2.out H5.out.1 H5.out.2 _
end Go.Proofs.Qxb6602599aDoor
