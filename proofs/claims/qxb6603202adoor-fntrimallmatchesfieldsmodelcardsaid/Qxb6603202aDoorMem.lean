import Derived.Test.Qxb6603202aDoorChecked
import Derived.WalkKit
import Derived.WalkSpells
import Derived.Deep.AppendLies
import Derived.Deep.Draws
import Derived.Deep.Cut
import Derived.Deep.CutRange
import Derived.Deep.CutBlock
import Derived.OwnWalk
import Derived.Maps.AppendAt
namespace Go.Proofs.Qxb6603202aDoor
open Go.RowKit
open Go

structure Fr (F : Nat → Prop) (w w' : World) : Prop where
  os : w'.os = w.os
  tape : w'.tape = w.tape
  output : w'.output = w.output
  size : w.heap.size ≤ w'.heap.size
  block : ∀ k, k < w.heap.size → ¬ F k → w'.heap[k]? = w.heap[k]?

theorem Fr.refl (F : Nat → Prop) (w : World) : Fr F w w := ⟨rfl, rfl, rfl, Nat.le_refl _, fun _ _ _ => rfl⟩
theorem Fr.trans {F F' : Nat → Prop} {a b c : World} (h : Fr F a b) (k : Fr F' b c) (hF : ∀ i, F' i → F i ∨ a.heap.size ≤ i) : Fr F a c :=
  ⟨k.os.trans h.os, k.tape.trans h.tape, k.output.trans h.output, Nat.le_trans h.size k.size, fun i hi hn =>
    (k.block i (Nat.lt_of_lt_of_le hi h.size) (fun hf => by rcases hF i hf with h1 | h1; exact hn h1; omega)).trans (h.block i hi hn)⟩
theorem Fr.mono {F F' : Nat → Prop} {a b : World} (h : Fr F a b) (hF : ∀ i, F i → F' i) : Fr F' a b :=
  ⟨h.os, h.tape, h.output, h.size, fun i hi hn => h.block i hi (fun hf => hn (hF i hf))⟩
theorem Fr.alloc {F : Nat → Prop} (w : World) (o : Obj) : Fr F w (w.alloc o) :=
  ⟨rfl, rfl, rfl, by simp, fun k hk _ => Below.heap_alloc _ _ _ hk⟩
theorem Fr.drewN {F : Nat → Prop} (w : World) (n : Nat) : Fr F w (w.drewN n) := ⟨rfl, rfl, rfl, Nat.le_refl _, fun _ _ _ => rfl⟩
theorem Fr.drew {F : Nat → Prop} (w : World) : Fr F w w.drew := ⟨rfl, rfl, rfl, Nat.le_refl _, fun _ _ _ => rfl⟩
theorem Fr.grown {F : Nat → Prop} {w w' : World} {row : Option Nat} (h : w.grownBy w' row) (hr : ∀ k, row = some k → F k) : Fr F w w' :=
  ⟨h.os, h.tape, h.output, h.size, fun k hk hn => h.block k hk (fun e => hn (hr k e.symm))⟩
theorem Fr.below {F : Nat → Prop} {B : Nat} {w w' : World} (h : Fr F w w') (hB : B ≤ w.heap.size) (hF : ∀ k, F k → B ≤ k) : Below B w w' :=
  ⟨h.os, h.tape, h.output, h.size, fun k hk => h.block k (by omega) (fun e => by have := hF k e; omega)⟩
theorem Fr.of_below {F : Nat → Prop} {w w' : World} (h : Below w.heap.size w w') : Fr F w w' :=
  ⟨h.os, h.tape, h.output, h.size, fun k hk _ => h.block k hk⟩
theorem Fr.cell {F : Nat → Prop} {w w' : World} (h : Fr F w w') {p : Addr} (hp : p.block < w.heap.size) (hn : ¬ F p.block) : w'.cell? p = w.cell? p :=
  World.cell?_of_block (w := w) (h.block p.block hp hn)
theorem lt_of_block {w : World} {b : Nat} {o : Obj} (h : w.heap[b]? = some o) : b < w.heap.size := (Array.getElem?_eq_some_iff.1 h).1
theorem Fr.owns {F : Nat → Prop} {w w' : World} (h : Fr F w w') {base : Nat} {e : TypeId} {size : Nat} {v : Value} {n : Nat} {xs : List Value} (ho : w.ownsRow base e size v n xs)
    (hn : ∀ k, v.ownBlock = some k → ¬ F k) : w'.ownsRow base e size v n xs := by
  refine ⟨ho.1, ?_⟩
  rcases ho.2 with h2 | ⟨g, cap, cur, rfl, hg, hh, r⟩
  · exact .inl h2
  · exact .inr ⟨g, cap, cur, rfl, hg, by rw [h.block g (lt_of_block hh) (hn g rfl)]; exact hh, r⟩
theorem own_form {w : World} {base : Nat} {e : TypeId} {size : Nat} {v : Value} {n : Nat} {xs : List Value} (h : w.ownsRow base e size v n xs) : ∃ ao cap, v = .slice ao n cap ∧ n ≤ cap ∧ (ao = none → cap = 0) ∧ (∀ a, ao = some a → ∃ g, a = ⟨g, 0, none⟩) := by
  rcases h.2 with ⟨rfl, rfl⟩ | ⟨g, cap, cur, rfl, _, hh, hc, _⟩
  · exact ⟨none, 0, rfl, Nat.le_refl _, fun _ => rfl, fun a e => by cases e⟩
  · exact ⟨some ⟨g, 0, none⟩, cap, rfl, hc, (fun e => by cases e), fun a e => ⟨g, by cases e; rfl⟩⟩

def ub (xs : List UInt8) : List Value := xs.map fun b => Value.int .u8 b.toNat
def at_ (xs : List UInt8) (i : Nat) : Int := ((xs.getD i 0).toNat : Int)

theorem ub_len (xs : List UInt8) : (ub xs).length = xs.length * 1 := by simp [ub]
theorem ub_app (xs ys : List UInt8) : ub xs ++ ub ys = ub (xs ++ ys) := by simp [ub]
theorem ub_one (xs : List UInt8) : ∀ u ∈ ub xs, u.oneCell' = true := by
  intro u hu
  simp [ub] at hu
  obtain ⟨x, _, rfl⟩ := hu
  rfl

theorem Tryd.info5 : (Tryd.prog.info? 5).map (fun i => (i.zero, i.size, i.bytes)) = some (some (.int .u8 0), 1, 1) := by kernel_rfl
theorem info_parts {P : Program} {e : TypeId} {z : Value} {s b : Nat} (h : (P.info? e).map (fun i => (i.zero, i.size, i.bytes)) = some (some z, s, b)) : ∃ i, P.info? e = some i ∧ i.zero = some z ∧ i.size = s ∧ i.bytes = b := by
  obtain ⟨i, hi, hx⟩ := Option.map_eq_some_iff.1 h
  simp only [Prod.mk.injEq] at hx
  exact ⟨i, hi, hx.1, hx.2.1, hx.2.2⟩

theorem size_list (s : ByteArray) : s.size = s.data.toList.length := by simp

theorem idx_str (s : ByteArray) (i : Nat) (h : i < s.size) (w : World) : (Instr.index 9 (.string s) (.int .i64 i)).run Tryd.prog w = .ok (.int .u8 (at_ s.data.toList i)) w := by
  have hh : (0 : Int) ≤ (i : Int) ∧ (i : Int) < (s.size : Int) := by omega
  rw [run_index_string w 9 s .i64 i Tryd.underlying9, dif_pos hh]
  congr 2
  have h2 : i < s.data.size := h
  have e3 : s.data[i]? = some s.data[i] := Array.getElem?_eq_getElem h2
  simp only [at_, List.getD, Array.getElem?_toList, e3]
  rfl


theorem u8_beq (b : UInt8) (n : Nat) (hn : n < 256) : ((b.toNat : Int) == (n : Int)) = (b == UInt8.ofNat n) := by
  rw [Bool.eq_iff_iff]
  simp only [beq_iff_eq]
  constructor
  · intro h
    have : b.toNat = n := by omega
    subst this
    simp
  · rintro rfl
    simp
    omega
theorem ne_int {b : UInt8} (n : Nat) (hn : n < 256) (h : b ≠ UInt8.ofNat n) : ((b.toNat : Int) == (n : Int)) = false := by
  rw [u8_beq b n hn]; simpa using h
theorem getD_of_lt {l : List UInt8} {i : Nat} (h : i < l.length) : l[i]? = some (l.getD i 0) := by
  rw [List.getD, List.getElem?_eq_getElem h]; rfl

def bs (l : List UInt8) : ByteArray := ⟨l.toArray⟩
theorem bs_list (l : List UInt8) : (bs l).data.toList = l := rfl
theorem bs_of (s : ByteArray) : bs s.data.toList = s := by cases s; rfl
theorem bs_size (l : List UInt8) : (bs l).size = l.length := by simp [bs, ByteArray.size]

def spcs : List UInt8 := [32, 9, 10, 11, 12, 13]
def asp (b : UInt8) : Bool := spcs.contains b

set_option maxHeartbeats 800000 in
theorem asp_any (b : UInt8) (w : World) : Calls Tryd.prog 10 #[.int .u8 b.toNat] w fun e w' => e = .returned (.bool (asp b)) ∧ w = w' := by
  by_cases hm : b ∈ spcs
  · have e : asp b = true := by simpa [asp] using hm
    rw [e]
    clear e
    simp only [spcs, List.mem_cons, List.not_mem_nil, or_false] at hm
    rcases hm with rfl | rfl | rfl | rfl | rfl | rfl <;> (
      go_enter Tryd.func10, Tryd.ntmps10
      go_wp2
      go_ret
      exact ⟨rfl, rfl⟩)
  · have e : asp b = false := by simpa [asp] using hm
    rw [e]
    clear e
    simp only [spcs, List.mem_cons, List.not_mem_nil, or_false, not_or] at hm
    obtain ⟨k1, k2, k3, k4, k5, k6⟩ := hm
    have z1 : ((b.toNat : Int) == 32) = false := ne_int 32 (by omega) k1
    have z2 : ((b.toNat : Int) == 9) = false := ne_int 9 (by omega) k2
    have z3 : ((b.toNat : Int) == 10) = false := ne_int 10 (by omega) k3
    have z4 : ((b.toNat : Int) == 11) = false := ne_int 11 (by omega) k4
    have z5 : ((b.toNat : Int) == 12) = false := ne_int 12 (by omega) k5
    have z6 : ((b.toNat : Int) == 13) = false := ne_int 13 (by omega) k6
    clear k1 k2 k3 k4 k5 k6
    go_enter Tryd.func10, Tryd.ntmps10
    go_wp2
    go_ret
    exact ⟨rfl, rfl⟩

set_option maxHeartbeats 800000 in
theorem bytes_ok (s : ByteArray) (w : World) (h1 : s.size ≤ 1048576) : Calls Tryd.prog 5 #[.string s] w fun e w' => e = .returned (.bool true) ∧ w = w' := by
  have z1 : ¬ ((s.size : Int) > 1048576) := by omega
  go_enter Tryd.func5, Tryd.ntmps5
  go_wp2
  go_ret
  exact ⟨rfl, rfl⟩

set_option maxHeartbeats 800000 in
theorem bytes_no (s : ByteArray) (w : World) (h : 1048576 < s.size) : Calls Tryd.prog 5 #[.string s] w fun e w' => e = .returned (.bool false) ∧ w = w' := by
  have z1 : ((s.size : Int) > 1048576) := by omega
  go_enter Tryd.func5, Tryd.ntmps5
  go_wp2
  go_ret
  exact ⟨rfl, rfl⟩
end Go.Proofs.Qxb6603202aDoor
