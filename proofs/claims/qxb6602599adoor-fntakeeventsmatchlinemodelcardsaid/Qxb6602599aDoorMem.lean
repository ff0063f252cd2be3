import Derived.Test.Qxb6602599aDoorModel
import Derived.WalkKit
import Derived.WalkSpells
import Derived.Deep.AppendLies
import Derived.Deep.Draws
namespace Go.Proofs.Qxb6602599aDoor
open Go.RowKit
open Go

def ubs (xs : List Int) : List Value := xs.map (Value.int .u8)
def IsB (xs : List Int) : Prop := ∀ x ∈ xs, 0 ≤ x ∧ x < 256

def blkOf (S : M.St) (z : Int) (vl vn vd : Value) : Array Value :=
  #[.int .u8 S.at_, .bool S.pending, .int .i64 S.bom, .bool S.begun, .string ⟨S.fname.toArray⟩, .string ⟨S.fdata.toArray⟩, .bool S.disp, .bool S.tooLong, vl, vn, vd, .bool S.hasData, .int .i64 z]

def Apart (u v : Value) : Prop := ∀ k, u.ownBlock = some k → v.ownBlock ≠ some k

structure Str (w : World) (b : Nat) (S : M.St) (z : Int) (vl vn vd : Value) : Prop where
  blk : w.heap[b]? = some (.cells (blkOf S z vl vn vd) 30 (0, 0))
  size : S.tooLong = false → z = S.size
  line : w.ownsRow 0 5 1 vl S.line.length (ubs S.line)
  name : w.ownsRow 0 5 1 vn S.name.length (ubs S.name)
  data : w.ownsRow 0 5 1 vd S.data.length (ubs S.data)
  ln : Apart vl vn
  ld : Apart vl vd
  nd : Apart vn vd

structure Fr (F : Nat → Prop) (w w' : World) : Prop where
  os : w'.os = w.os
  tape : w'.tape = w.tape
  output : w'.output = w.output
  size : w.heap.size ≤ w'.heap.size
  block : ∀ k, k < w.heap.size → ¬ F k → w'.heap[k]? = w.heap[k]?

theorem Fr.refl (F : Nat → Prop) (w : World) : Fr F w w := ⟨rfl, rfl, rfl, Nat.le_refl _, fun _ _ _ => rfl⟩
theorem Fr.trans {F F' : Nat → Prop} {a b c : World} (h : Fr F a b) (k : Fr F' b c) (hF : ∀ i, F' i → F i ∨ a.heap.size ≤ i) : Fr F a c :=
  ⟨k.os.trans h.os, k.tape.trans h.tape, k.output.trans h.output, Nat.le_trans h.size k.size, fun i hi hn =>
    (k.block i (Nat.lt_of_lt_of_le hi h.size) (fun hf => by rcases hF i hf with h1 | h1; exact hn h1; omega)).trans (h.block i hi hn)⟩
theorem Fr.mono {F F' : Nat → Prop} {a b : World} (h : Fr F a b) (hF : ∀ i, F i → F' i) : Fr F' a b :=
  ⟨h.os, h.tape, h.output, h.size, fun i hi hn => h.block i hi (fun hf => hn (hF i hf))⟩
theorem Fr.setCell {F : Nat → Prop} (w : World) {a : Addr} (ha : F a.block) (u : Value) : Fr F w (w.setCell a u) :=
  ⟨rfl, rfl, rfl, by simp [World.setCell], fun k _ hn => Below.heap_setCell _ _ _ _ (fun e => hn (e ▸ ha))⟩
theorem Fr.alloc {F : Nat → Prop} (w : World) (o : Obj) : Fr F w (w.alloc o) :=
  ⟨rfl, rfl, rfl, by simp, fun k hk _ => Below.heap_alloc _ _ _ hk⟩
theorem Fr.drew {F : Nat → Prop} (w : World) : Fr F w w.drew := ⟨rfl, rfl, rfl, Nat.le_refl _, fun _ _ _ => rfl⟩
theorem Fr.drewN {F : Nat → Prop} (w : World) (n : Nat) : Fr F w (w.drewN n) := ⟨rfl, rfl, rfl, Nat.le_refl _, fun _ _ _ => rfl⟩
theorem Fr.grown {F : Nat → Prop} {w w' : World} {row : Option Nat} (h : w.grownBy w' row) (hr : ∀ k, row = some k → F k) : Fr F w w' :=
  ⟨h.os, h.tape, h.output, h.size, fun k hk hn => h.block k hk (fun e => hn (hr k e.symm))⟩
theorem Fr.below {F : Nat → Prop} {B : Nat} {w w' : World} (h : Fr F w w') (hB : B ≤ w.heap.size) (hF : ∀ k, F k → B ≤ k) : Below B w w' :=
  ⟨h.os, h.tape, h.output, h.size, fun k hk => h.block k (by omega) (fun e => by have := hF k e; omega)⟩
theorem Fr.of_below {F : Nat → Prop} {w w' : World} (h : Below w.heap.size w w') : Fr F w w' :=
  ⟨h.os, h.tape, h.output, h.size, fun k hk _ => h.block k hk⟩
theorem Fr.cell {F : Nat → Prop} {w w' : World} (h : Fr F w w') {p : Addr} (hp : p.block < w.heap.size) (hn : ¬ F p.block) : w'.cell? p = w.cell? p :=
  World.cell?_of_block (w := w) (h.block p.block hp hn)
theorem Fr.owns {F : Nat → Prop} {w w' : World} (h : Fr F w w') {base : Nat} {e : TypeId} {size : Nat} {v : Value} {n : Nat} {xs : List Value} (ho : w.ownsRow base e size v n xs)
    (hn : ∀ k, v.ownBlock = some k → ¬ F k) : w'.ownsRow base e size v n xs := by
  refine ⟨ho.1, ?_⟩
  rcases ho.2 with h2 | ⟨g, cap, cur, rfl, hg, hh, r⟩
  · exact .inl h2
  · exact .inr ⟨g, cap, cur, rfl, hg, by rw [h.block g (lt_of_block hh) (hn g rfl)]; exact hh, r⟩

def Foot (b : Nat) (vl vn vd : Value) (k : Nat) : Prop := k = b ∨ vl.ownBlock = some k ∨ vn.ownBlock = some k ∨ vd.ownBlock = some k

structure Goes (b : Nat) (vl vn vd vl' vn' vd' : Value) (w w' : World) : Prop where
  fr : Fr (Foot b vl vn vd) w w'
  foot : ∀ k, Foot b vl' vn' vd' k → Foot b vl vn vd k ∨ w.heap.size ≤ k

theorem Goes.refl (b : Nat) (vl vn vd : Value) (w : World) : Goes b vl vn vd vl vn vd w w := ⟨Fr.refl _ _, fun _ h => .inl h⟩
theorem Goes.trans {b : Nat} {vl vn vd vl1 vn1 vd1 vl2 vn2 vd2 : Value} {w w1 w2 : World} (h : Goes b vl vn vd vl1 vn1 vd1 w w1) (k : Goes b vl1 vn1 vd1 vl2 vn2 vd2 w1 w2) : Goes b vl vn vd vl2 vn2 vd2 w w2 :=
  ⟨h.fr.trans k.fr h.foot, fun i hi => by
    rcases k.foot i hi with h1 | h1
    · exact h.foot i h1
    · exact .inr (Nat.le_trans h.fr.size h1)⟩

def Left (b : Nat) (vl vn vd : Value) (w : World) (S : M.St) (w' : World) : Prop := ∃ z vl' vn' vd', Str w' b S z vl' vn' vd' ∧ Goes b vl vn vd vl' vn' vd' w w'

theorem blk_set {w : World} {b k : Nat} {cs : Array Value} {t : TypeId} {u : Value} (h : w.heap[b]? = some (.cells cs t (0, 0))) :
    (w.setCell ⟨b, k, none⟩ u).heap[b]? = some (.cells (cs.setIfInBounds k u) t (0, 0)) := by
  have hlt := lt_of_block h
  have h' : w.heap[b] = .cells cs t (0, 0) := by simpa [Array.getElem?_eq_getElem hlt] using h
  show (w.heap.modify b _)[b]? = _
  rw [Array.getElem?_eq_getElem (by simpa using hlt), Array.getElem_modify_self, h']
  rfl

theorem cell_blk {w : World} {b : Nat} {cs : Array Value} {t : TypeId} (h : w.heap[b]? = some (.cells cs t (0, 0))) (k : Nat) : w.cell? ⟨b, k, none⟩ = cs[k]? := by simp [World.cell?, h]
theorem free_blk {w : World} {b : Nat} {cs : Array Value} {t : TypeId} (h : w.heap[b]? = some (.cells cs t (0, 0))) (k : Nat) : w.frozen? ⟨b, k, none⟩ = false := by simp [World.frozen?, h]

theorem own_ne {w : World} {b : Nat} {cs : Array Value} {v : Value} {n : Nat} {xs : List Value} (hb : w.heap[b]? = some (.cells cs 30 (0, 0))) (h : w.ownsRow 0 5 1 v n xs) : v.ownBlock ≠ some b := by
  intro e
  rcases h.2 with ⟨rfl, _⟩ | ⟨g, cap, cur, rfl, _, hh, _⟩
  · cases e
  · simp [Value.ownBlock] at e
    subst e
    rw [hb] at hh
    simp at hh

theorem own_set {w : World} {b k : Nat} {cs : Array Value} {v u : Value} {n : Nat} {xs : List Value} (hb : w.heap[b]? = some (.cells cs 30 (0, 0))) (h : w.ownsRow 0 5 1 v n xs) : (w.setCell ⟨b, k, none⟩ u).ownsRow 0 5 1 v n xs :=
  ownsRow_setCell_other h (own_ne hb h) u

theorem own_form {w : World} {base : Nat} {e : TypeId} {size : Nat} {v : Value} {n : Nat} {xs : List Value} (h : w.ownsRow base e size v n xs) : ∃ ao cap, v = .slice ao n cap ∧ n ≤ cap ∧ (ao = none → cap = 0) ∧ (∀ a, ao = some a → ∃ g, a = ⟨g, 0, none⟩) := by
  rcases h.2 with ⟨rfl, rfl⟩ | ⟨g, cap, cur, rfl, _, hh, hc, _⟩
  · exact ⟨none, 0, rfl, Nat.le_refl _, fun _ => rfl, fun a e => by cases e⟩
  · exact ⟨some ⟨g, 0, none⟩, cap, rfl, hc, (fun e => by cases e), fun a e => ⟨g, by cases e; rfl⟩⟩

theorem Str.cells {w : World} {b : Nat} {S : M.St} {z : Int} {vl vn vd : Value} (h : Str w b S z vl vn vd) :
    w.cell? ⟨b, 0, none⟩ = some (.int .u8 S.at_) ∧ w.cell? ⟨b, 1, none⟩ = some (.bool S.pending) ∧ w.cell? ⟨b, 2, none⟩ = some (.int .i64 S.bom) ∧ w.cell? ⟨b, 3, none⟩ = some (.bool S.begun) ∧
    w.cell? ⟨b, 4, none⟩ = some (.string ⟨S.fname.toArray⟩) ∧ w.cell? ⟨b, 5, none⟩ = some (.string ⟨S.fdata.toArray⟩) ∧ w.cell? ⟨b, 6, none⟩ = some (.bool S.disp) ∧ w.cell? ⟨b, 7, none⟩ = some (.bool S.tooLong) ∧
    w.cell? ⟨b, 8, none⟩ = some vl ∧ w.cell? ⟨b, 9, none⟩ = some vn ∧ w.cell? ⟨b, 10, none⟩ = some vd ∧ w.cell? ⟨b, 11, none⟩ = some (.bool S.hasData) ∧ w.cell? ⟨b, 12, none⟩ = some (.int .i64 z) := by
  refine ⟨?_, ?_, ?_, ?_, ?_, ?_, ?_, ?_, ?_, ?_, ?_, ?_, ?_⟩ <;> rw [cell_blk h.blk] <;> rfl

theorem Str.free {w : World} {b : Nat} {S : M.St} {z : Int} {vl vn vd : Value} (h : Str w b S z vl vn vd) (k : Nat) : w.frozen? ⟨b, k, none⟩ = false := free_blk h.blk k

theorem Str.lt {w : World} {b : Nat} {S : M.St} {z : Int} {vl vn vd : Value} (h : Str w b S z vl vn vd) : b < w.heap.size := lt_of_block h.blk

theorem Str.footLt {w : World} {b : Nat} {S : M.St} {z : Int} {vl vn vd : Value} (h : Str w b S z vl vn vd) (k : Nat) (hk : Foot b vl vn vd k) : k < w.heap.size := by
  rcases hk with rfl | hk | hk | hk
  · exact h.lt
  · exact (h.line.lt k hk).2
  · exact (h.name.lt k hk).2
  · exact (h.data.lt k hk).2

theorem Str.kept {w w' : World} {b : Nat} {S : M.St} {z : Int} {vl vn vd : Value} (h : Str w b S z vl vn vd) {F : Nat → Prop} (hf : Fr F w w') (hn : ∀ k, Foot b vl vn vd k → ¬ F k) : Str w' b S z vl vn vd :=
  ⟨(hf.block b h.lt (hn b (.inl rfl))).trans h.blk, h.size, hf.owns h.line (fun k hk => hn k (.inr (.inl hk))), hf.owns h.name (fun k hk => hn k (.inr (.inr (.inl hk)))), hf.owns h.data (fun k hk => hn k (.inr (.inr (.inr hk)))), h.ln, h.ld, h.nd⟩

theorem Fr.owns_b {w w' : World} {b : Nat} {cs : Array Value} {v : Value} {n : Nat} {xs : List Value} (hf : Fr (fun k => k = b) w w') (hb : w.heap[b]? = some (.cells cs 30 (0, 0))) (h : w.ownsRow 0 5 1 v n xs) : w'.ownsRow 0 5 1 v n xs :=
  hf.owns h (fun k hk e => own_ne hb h (by rw [hk, e]))

theorem Str.wrote {w w' : World} {b : Nat} {S S' : M.St} {z z' : Int} {vl vn vd vl' vn' vd' : Value} (h : Str w b S z vl vn vd) (hf : Fr (fun k => k = b) w w')
    (hb : w'.heap[b]? = some (.cells (blkOf S' z' vl' vn' vd') 30 (0, 0))) (hz : S'.tooLong = false → z' = S'.size)
    (hl : w.ownsRow 0 5 1 vl' S'.line.length (ubs S'.line)) (hn : w.ownsRow 0 5 1 vn' S'.name.length (ubs S'.name)) (hd : w.ownsRow 0 5 1 vd' S'.data.length (ubs S'.data))
    (ol : vl'.ownBlock = none ∨ vl'.ownBlock = vl.ownBlock) (on : vn'.ownBlock = none ∨ vn'.ownBlock = vn.ownBlock) (od : vd'.ownBlock = none ∨ vd'.ownBlock = vd.ownBlock) : Left b vl vn vd w S' w' := by
  refine ⟨z', vl', vn', vd', ⟨hb, hz, hf.owns_b h.blk hl, hf.owns_b h.blk hn, hf.owns_b h.blk hd, ?_, ?_, ?_⟩, ⟨hf.mono (fun i e => .inl e), ?_⟩⟩
  · intro k h1 h2
    rcases ol with e | e <;> rcases on with e' | e' <;> rw [h1] at e <;> rw [h2] at e' <;> first | cases e | cases e' | exact h.ln k e.symm e'.symm
  · intro k h1 h2
    rcases ol with e | e <;> rcases od with e' | e' <;> rw [h1] at e <;> rw [h2] at e' <;> first | cases e | cases e' | exact h.ld k e.symm e'.symm
  · intro k h1 h2
    rcases on with e | e <;> rcases od with e' | e' <;> rw [h1] at e <;> rw [h2] at e' <;> first | cases e | cases e' | exact h.nd k e.symm e'.symm
  · intro k hk
    left
    rcases hk with hk | hk | hk | hk
    · exact .inl hk
    · rcases ol with e | e
      · rw [hk] at e; cases e
      · exact .inr (.inl (e ▸ hk))
    · rcases on with e | e
      · rw [hk] at e; cases e
      · exact .inr (.inr (.inl (e ▸ hk)))
    · rcases od with e | e
      · rw [hk] at e; cases e
      · exact .inr (.inr (.inr (e ▸ hk)))

theorem Fr.set_b {b k : Nat} {a w : World} (h : Fr (fun i => i = b) a w) (u : Value) : Fr (fun i => i = b) a (w.setCell ⟨b, k, none⟩ u) :=
  h.trans (Fr.setCell w (a := ⟨b, k, none⟩) (F := fun i => i = b) (by exact rfl) u) (fun i e => .inl e)
theorem Fr.drew_b {b : Nat} {a w : World} (h : Fr (fun i => i = b) a w) : Fr (fun i => i = b) a w.drew := ⟨h.os, h.tape, h.output, h.size, h.block⟩
theorem Fr.b0 (b : Nat) (w : World) : Fr (fun i => i = b) w w := Fr.refl _ _

def sets (b : Nat) (w : World) : List (Nat × Value) → World
  | [] => w
  | p :: r => sets b (w.setCell ⟨b, p.1, none⟩ p.2) r
def puts (cs : Array Value) : List (Nat × Value) → Array Value
  | [] => cs
  | p :: r => puts (cs.setIfInBounds p.1 p.2) r
theorem sets_fr (b : Nat) (l : List (Nat × Value)) : ∀ a w : World, Fr (fun i => i = b) a w → Fr (fun i => i = b) a (sets b w l) := by
  induction l with
  | nil => intro a w h; exact h
  | cons p r ih => intro a w h; exact ih a _ (h.set_b _)
theorem sets_blk {b : Nat} {t : TypeId} (l : List (Nat × Value)) : ∀ (w : World) (cs : Array Value), w.heap[b]? = some (.cells cs t (0, 0)) → (sets b w l).heap[b]? = some (.cells (puts cs l) t (0, 0)) := by
  induction l with
  | nil => intro w cs h; exact h
  | cons p r ih => intro w cs h; exact ih _ _ (blk_set h)

theorem Left.refl {b : Nat} {vl vn vd : Value} {w : World} {S : M.St} {z : Int} (h : Str w b S z vl vn vd) : Left b vl vn vd w S w := ⟨z, vl, vn, vd, h, Goes.refl _ _ _ _ _⟩
theorem Str.wrote_sets {w : World} {b : Nat} {S S' : M.St} {z z' : Int} {vl vn vd vl' vn' vd' : Value} (h : Str w b S z vl vn vd) (l : List (Nat × Value)) (q : Nat)
    (hp : puts (blkOf S z vl vn vd) l = blkOf S' z' vl' vn' vd') (hz : S'.tooLong = false → z' = S'.size)
    (hl : w.ownsRow 0 5 1 vl' S'.line.length (ubs S'.line)) (hn : w.ownsRow 0 5 1 vn' S'.name.length (ubs S'.name)) (hd : w.ownsRow 0 5 1 vd' S'.data.length (ubs S'.data))
    (ol : vl'.ownBlock = none ∨ vl'.ownBlock = vl.ownBlock) (on : vn'.ownBlock = none ∨ vn'.ownBlock = vn.ownBlock) (od : vd'.ownBlock = none ∨ vd'.ownBlock = vd.ownBlock) : Left b vl vn vd w S' ((sets b w l).drewN q) := by
  have hb := sets_blk l w _ h.blk
  rw [hp] at hb
  have hf := sets_fr b l w w (Fr.b0 b w)
  exact h.wrote ⟨hf.os, hf.tape, hf.output, hf.size, hf.block⟩ hb hz hl hn hd ol on od

theorem Left.trans {b : Nat} {vl vn vd vl' vn' vd' : Value} {w w1 w2 : World} {S : M.St} (g : Goes b vl vn vd vl' vn' vd' w w1) (k : Left b vl' vn' vd' w1 S w2) : Left b vl vn vd w S w2 := by
  obtain ⟨z, ul, un, ud, hs, hg⟩ := k
  exact ⟨z, ul, un, ud, hs, g.trans hg⟩

def BIn (w : World) (p : Option Addr) (n : Nat) (xs : List Int) : Prop := 0 < n → ∃ b o, p = some ⟨b, o, none⟩ ∧ ∀ i, i < n → w.cell? ⟨b, o + i, none⟩ = some (.int .u8 (xs.getD i 0))
theorem BIn.zero (w : World) (p : Option Addr) (xs : List Int) : BIn w p 0 xs := fun h => absurd h (Nat.lt_irrefl 0)
theorem add_plain (b o i : Nat) : (⟨b, o, none⟩ : Addr).add i = ⟨b, o + i, none⟩ := by unfold Addr.add; split <;> simp_all
theorem BIn.news {w : World} {a : Addr} {n : Nat} {xs : List Int} (hx : xs.length = n) (h : BIn w (some a) n xs) : ∀ j u, (ubs xs)[j]? = some u → w.cell? (a.add j) = some u := by
  intro j u hu
  have hj : j < n := by
    have := (List.getElem?_eq_some_iff.1 hu).1
    simp [ubs] at this; omega
  obtain ⟨b, o, e, hc⟩ := h (by omega)
  cases e
  rw [add_plain, hc j hj]
  rw [← hu]
  have : j < xs.length := by omega
  simp [ubs, List.getD, this]
theorem ubs_one (xs : List Int) : ∀ u ∈ ubs xs, u.oneCell' = true := by
  intro u hu
  simp [ubs] at hu
  obtain ⟨x, _, rfl⟩ := hu
  rfl
theorem ubs_len (xs : List Int) : (ubs xs).length = xs.length * 1 := by simp [ubs]
theorem ubs_app (xs ys : List Int) : ubs xs ++ ubs ys = ubs (xs ++ ys) := by simp [ubs]
theorem BIn.kept {F : Nat → Prop} {w w' : World} {p : Option Addr} {n : Nat} {xs : List Int} (h : BIn w p n xs) (hf : Fr F w w') (hn : ∀ a : Addr, p = some a → 0 < n → ¬ F a.block) : BIn w' p n xs := by
  intro h0
  obtain ⟨b, o, e, hc⟩ := h h0
  refine ⟨b, o, e, fun i hi => ?_⟩
  rw [hf.cell (p := ⟨b, o + i, none⟩) (World.block_lt_of_cell? w _ (hc i hi)) (hn ⟨b, o, none⟩ e h0), hc i hi]
theorem BIn.lt {w : World} {b o n : Nat} {xs : List Int} (h : BIn w (some ⟨b, o, none⟩) n xs) (hn : 0 < n) : b < w.heap.size := by
  obtain ⟨b', o', e, hc⟩ := h hn
  cases e
  exact World.block_lt_of_cell? w _ (hc 0 hn)

theorem foot_none {b : Nat} {vl vn vd : Value} : ∀ k, Foot b vl vn vd k → ¬ (fun _ : Nat => False) k := fun _ _ h => h

end Go.Proofs.Qxb6602599aDoor
