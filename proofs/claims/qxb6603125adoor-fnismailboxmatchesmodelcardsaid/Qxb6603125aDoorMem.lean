import Derived.Test.Qxb6603125aDoorChecked
import Derived.WalkKit
import Derived.WalkSpells
import Derived.Deep.AppendLies
import Derived.Deep.Draws
import Derived.Deep.Cut
import Derived.Deep.CutRange
import Derived.Deep.CutBlock
import Derived.OwnWalk
namespace Go.Proofs.Qxb6603125aDoor
open Go.RowKit
open Go

structure Fr (F : Nat → Prop) (w w' : World) : Prop where
  os : w'.os = w.os
  tape : w'.tape = w.tape
  output : w'.output = w.output
  size : w.heap.size ≤ w'.heap.size
  block : ∀ k, k < w.heap.size → ¬ F k → w'.heap[k]? = w.heap[k]?

theorem Fr.refl (F : Nat → Prop) (w : World) : Fr F w w := ⟨rfl, rfl, rfl, Nat.le_refl _, fun _ _ _ => rfl⟩
theorem Fr.trans {F F' : Nat → Prop} {a b c : World} (h : Fr F a b) (k : Fr F' b c) (hF : ∀ i, F' i → F i ∨ a.heap.size ≤ i) : Fr F a c :=
  ⟨k.os.trans h.os, k.tape.trans h.tape, k.output.trans h.output, Nat.le_trans h.size k.size, fun i hi hn =>
    (k.block i (Nat.lt_of_lt_of_le hi h.size) (fun hf => by rcases hF i hf with h1 | h1; exact hn h1; omega)).trans (h.block i hi hn)⟩
theorem Fr.mono {F F' : Nat → Prop} {a b : World} (h : Fr F a b) (hF : ∀ i, F i → F' i) : Fr F' a b :=
  ⟨h.os, h.tape, h.output, h.size, fun i hi hn => h.block i hi (fun hf => hn (hF i hf))⟩
theorem Fr.alloc {F : Nat → Prop} (w : World) (o : Obj) : Fr F w (w.alloc o) :=
  ⟨rfl, rfl, rfl, by simp, fun k hk _ => Below.heap_alloc _ _ _ hk⟩
theorem Fr.drewN {F : Nat → Prop} (w : World) (n : Nat) : Fr F w (w.drewN n) := ⟨rfl, rfl, rfl, Nat.le_refl _, fun _ _ _ => rfl⟩
theorem Fr.drew {F : Nat → Prop} (w : World) : Fr F w w.drew := ⟨rfl, rfl, rfl, Nat.le_refl _, fun _ _ _ => rfl⟩
theorem Fr.grown {F : Nat → Prop} {w w' : World} {row : Option Nat} (h : w.grownBy w' row) (hr : ∀ k, row = some k → F k) : Fr F w w' :=
  ⟨h.os, h.tape, h.output, h.size, fun k hk hn => h.block k hk (fun e => hn (hr k e.symm))⟩
theorem Fr.below {F : Nat → Prop} {B : Nat} {w w' : World} (h : Fr F w w') (hB : B ≤ w.heap.size) (hF : ∀ k, F k → B ≤ k) : Below B w w' :=
  ⟨h.os, h.tape, h.output, h.size, fun k hk => h.block k (by omega) (fun e => by have := hF k e; omega)⟩
theorem Fr.of_below {F : Nat → Prop} {w w' : World} (h : Below w.heap.size w w') : Fr F w w' :=
  ⟨h.os, h.tape, h.output, h.size, fun k hk _ => h.block k hk⟩
theorem Fr.cell {F : Nat → Prop} {w w' : World} (h : Fr F w w') {p : Addr} (hp : p.block < w.heap.size) (hn : ¬ F p.block) : w'.cell? p = w.cell? p :=
  World.cell?_of_block (w := w) (h.block p.block hp hn)
theorem lt_of_block {w : World} {b : Nat} {o : Obj} (h : w.heap[b]? = some o) : b < w.heap.size := (Array.getElem?_eq_some_iff.1 h).1
theorem Fr.owns {F : Nat → Prop} {w w' : World} (h : Fr F w w') {base : Nat} {e : TypeId} {size : Nat} {v : Value} {n : Nat} {xs : List Value} (ho : w.ownsRow base e size v n xs)
    (hn : ∀ k, v.ownBlock = some k → ¬ F k) : w'.ownsRow base e size v n xs := by
  refine ⟨ho.1, ?_⟩
  rcases ho.2 with h2 | ⟨g, cap, cur, rfl, hg, hh, r⟩
  · exact .inl h2
  · exact .inr ⟨g, cap, cur, rfl, hg, by rw [h.block g (lt_of_block hh) (hn g rfl)]; exact hh, r⟩
theorem own_form {w : World} {base : Nat} {e : TypeId} {size : Nat} {v : Value} {n : Nat} {xs : List Value} (h : w.ownsRow base e size v n xs) : ∃ ao cap, v = .slice ao n cap ∧ n ≤ cap ∧ (ao = none → cap = 0) ∧ (∀ a, ao = some a → ∃ g, a = ⟨g, 0, none⟩) := by
  rcases h.2 with ⟨rfl, rfl⟩ | ⟨g, cap, cur, rfl, _, hh, hc, _⟩
  · exact ⟨none, 0, rfl, Nat.le_refl _, fun _ => rfl, fun a e => by cases e⟩
  · exact ⟨some ⟨g, 0, none⟩, cap, rfl, hc, (fun e => by cases e), fun a e => ⟨g, by cases e; rfl⟩⟩

def ub (xs : List UInt8) : List Value := xs.map fun b => Value.int .u8 b.toNat
def at_ (xs : List UInt8) (i : Nat) : Int := ((xs.getD i 0).toNat : Int)

theorem ub_len (xs : List UInt8) : (ub xs).length = xs.length * 1 := by simp [ub]
theorem ub_app (xs ys : List UInt8) : ub xs ++ ub ys = ub (xs ++ ys) := by simp [ub]
theorem ub_one (xs : List UInt8) : ∀ u ∈ ub xs, u.oneCell' = true := by
  intro u hu
  simp [ub] at hu
  obtain ⟨x, _, rfl⟩ := hu
  rfl

theorem Tryd.info5 : (Tryd.prog.info? 5).map (fun i => (i.zero, i.size, i.bytes)) = some (some (.int .u8 0), 1, 1) := by kernel_rfl
theorem info_parts {P : Program} {e : TypeId} {z : Value} {s b : Nat} (h : (P.info? e).map (fun i => (i.zero, i.size, i.bytes)) = some (some z, s, b)) : ∃ i, P.info? e = some i ∧ i.zero = some z ∧ i.size = s ∧ i.bytes = b := by
  obtain ⟨i, hi, hx⟩ := Option.map_eq_some_iff.1 h
  simp only [Prod.mk.injEq] at hx
  exact ⟨i, hi, hx.1, hx.2.1, hx.2.2⟩

theorem size_list (s : ByteArray) : s.size = s.data.toList.length := by simp

theorem idx_str (s : ByteArray) (i : Nat) (h : i < s.size) (w : World) : (Instr.index 9 (.string s) (.int .i64 i)).run Tryd.prog w = .ok (.int .u8 (at_ s.data.toList i)) w := by
  have hh : (0 : Int) ≤ (i : Int) ∧ (i : Int) < (s.size : Int) := by omega
  rw [run_index_string w 9 s .i64 i Tryd.underlying9, dif_pos hh]
  congr 2
  have h2 : i < s.data.size := h
  have e3 : s.data[i]? = some s.data[i] := Array.getElem?_eq_getElem h2
  simp only [at_, List.getD, Array.getElem?_toList, e3]
  rfl


def isD (b : UInt8) : Bool := decide (48 ≤ b.toNat ∧ b.toNat ≤ 57)
def isL (b : UInt8) : Bool := decide (97 ≤ b.toNat ∧ b.toNat ≤ 122) || decide (65 ≤ b.toNat ∧ b.toNat ≤ 90)
def host (b : UInt8) : Bool := isL b || isD b || b == 45 || b == 95

set_option maxHeartbeats 800000 in
theorem dec_any (b : UInt8) (w : World) : Calls Tryd.prog 32 #[.int .u8 b.toNat] w fun e w' => e = .returned (.bool (isD b)) ∧ w = w' := by
  by_cases h1 : 48 ≤ b.toNat
  · have z1 : (b.toNat : Int) ≥ 48 := by omega
    by_cases h2 : b.toNat ≤ 57
    · have z2 : (b.toNat : Int) ≤ 57 := by omega
      have e : isD b = true := by simp [isD, h1, h2]
      rw [e]
      go_enter Tryd.func32, Tryd.ntmps32
      go_wp2
      go_ret
      exact ⟨rfl, rfl⟩
    · have z2 : ¬ (b.toNat : Int) ≤ 57 := by omega
      have e : isD b = false := by simp [isD]; omega
      rw [e]
      go_enter Tryd.func32, Tryd.ntmps32
      go_wp2
      go_ret
      exact ⟨rfl, rfl⟩
  · have z1 : ¬ (b.toNat : Int) ≥ 48 := by omega
    have e : isD b = false := by simp [isD]; omega
    rw [e]
    go_enter Tryd.func32, Tryd.ntmps32
    go_wp2
    go_ret
    exact ⟨rfl, rfl⟩

set_option maxHeartbeats 800000 in
theorem digit_any (b : UInt8) (w : World) : Calls Tryd.prog 29 #[.int .u8 b.toNat] w fun e w' => e = .returned (.bool (isD b)) ∧ w = w' := by
  by_cases h1 : 48 ≤ b.toNat
  · have z1 : (48 : Int) ≤ (b.toNat : Int) := by omega
    by_cases h2 : b.toNat ≤ 57
    · have z2 : (b.toNat : Int) ≤ 57 := by omega
      have e : isD b = true := by simp [isD, h1, h2]
      rw [e]
      go_enter Tryd.func29, Tryd.ntmps29
      go_wp2
      go_ret
      exact ⟨rfl, rfl⟩
    · have z2 : ¬ (b.toNat : Int) ≤ 57 := by omega
      have e : isD b = false := by simp [isD]; omega
      rw [e]
      go_enter Tryd.func29, Tryd.ntmps29
      go_wp2
      go_ret
      exact ⟨rfl, rfl⟩
  · have z1 : ¬ (48 : Int) ≤ (b.toNat : Int) := by omega
    have e : isD b = false := by simp [isD]; omega
    rw [e]
    go_enter Tryd.func29, Tryd.ntmps29
    go_wp2
    go_ret
    exact ⟨rfl, rfl⟩

set_option maxHeartbeats 1600000 in
theorem letter_any (b : UInt8) (w : World) : Calls Tryd.prog 28 #[.int .u8 b.toNat] w fun e w' => e = .returned (.bool (isL b)) ∧ w = w' := by
  by_cases h1 : 97 ≤ b.toNat
  · have z1 : (97 : Int) ≤ (b.toNat : Int) := by omega
    by_cases h2 : b.toNat ≤ 122
    · have z2 : (b.toNat : Int) ≤ 122 := by omega
      have e : isL b = true := by simp [isL, h1, h2]
      rw [e]
      go_enter Tryd.func28, Tryd.ntmps28
      go_wp2
      go_ret
      exact ⟨rfl, rfl⟩
    · have z2 : ¬ (b.toNat : Int) ≤ 122 := by omega
      have z3 : (65 : Int) ≤ (b.toNat : Int) := by omega
      have z4 : ¬ (b.toNat : Int) ≤ 90 := by omega
      have e : isL b = false := by simp [isL]; omega
      rw [e]
      go_enter Tryd.func28, Tryd.ntmps28
      go_wp2
      go_ret
      exact ⟨rfl, rfl⟩
  · have z1 : ¬ (97 : Int) ≤ (b.toNat : Int) := by omega
    by_cases h3 : 65 ≤ b.toNat
    · have z3 : (65 : Int) ≤ (b.toNat : Int) := by omega
      by_cases h4 : b.toNat ≤ 90
      · have z4 : (b.toNat : Int) ≤ 90 := by omega
        have e : isL b = true := by simp [isL]; omega
        rw [e]
        go_enter Tryd.func28, Tryd.ntmps28
        go_wp2
        go_ret
        exact ⟨rfl, rfl⟩
      · have z4 : ¬ (b.toNat : Int) ≤ 90 := by omega
        have e : isL b = false := by simp [isL]; omega
        rw [e]
        go_enter Tryd.func28, Tryd.ntmps28
        go_wp2
        go_ret
        exact ⟨rfl, rfl⟩
    · have z3 : ¬ (65 : Int) ≤ (b.toNat : Int) := by omega
      have e : isL b = false := by simp [isL]; omega
      rw [e]
      go_enter Tryd.func28, Tryd.ntmps28
      go_wp2
      go_ret
      exact ⟨rfl, rfl⟩

set_option maxRecDepth 100000 in
theorem or32 : ∀ n : Fin 256, (decide (97 ≤ bits BinOp.or IntKind.u8 ((n.val : Nat) : Int) 32 ∧ bits BinOp.or IntKind.u8 ((n.val : Nat) : Int) 32 ≤ 122)) = (decide (97 ≤ n.val ∧ n.val ≤ 122) || decide (65 ≤ n.val ∧ n.val ≤ 90)) := by decide
theorem or32b (b : UInt8) : (decide (97 ≤ bits BinOp.or IntKind.u8 (b.toNat : Int) 32 ∧ bits BinOp.or IntKind.u8 (b.toNat : Int) 32 ≤ 122)) = isL b := or32 ⟨b.toNat, b.toNat_lt⟩

theorem or32r : ∀ b : UInt8, isL b = true ↔ (97 ≤ bits BinOp.or IntKind.u8 (b.toNat : Int) 32 ∧ bits BinOp.or IntKind.u8 (b.toNat : Int) 32 ≤ 122) := fun b => by rw [← or32b, decide_eq_true_iff]

set_option maxHeartbeats 800000 in
theorem alpha_any (b : UInt8) (w : World) : Calls Tryd.prog 36 #[.int .u8 b.toNat] w fun e w' => e = .returned (.bool (isL b)) ∧ w = w' := by
  have h := or32r b
  by_cases h1 : 97 ≤ bits BinOp.or IntKind.u8 (b.toNat : Int) 32
  · by_cases h2 : bits BinOp.or IntKind.u8 (b.toNat : Int) 32 ≤ 122
    · rw [h.2 ⟨h1, h2⟩]
      have z1 : bits BinOp.or IntKind.u8 (b.toNat : Int) 32 ≥ 97 := h1
      clear h h1
      go_enter Tryd.func36, Tryd.ntmps36
      go_wp2
      go_ret
      exact ⟨rfl, rfl⟩
    · rw [Bool.eq_false_iff.2 (fun k => h2 (h.1 k).2)]
      have z1 : bits BinOp.or IntKind.u8 (b.toNat : Int) 32 ≥ 97 := h1
      clear h h1
      go_enter Tryd.func36, Tryd.ntmps36
      go_wp2
      go_ret
      exact ⟨rfl, rfl⟩
  · rw [Bool.eq_false_iff.2 (fun k => h1 (h.1 k).1)]
    have z1 : ¬ bits BinOp.or IntKind.u8 (b.toNat : Int) 32 ≥ 97 := h1
    clear h h1
    go_enter Tryd.func36, Tryd.ntmps36
    go_wp2
    go_ret
    exact ⟨rfl, rfl⟩

theorem u8_beq (b : UInt8) (n : Nat) (hn : n < 256) : ((b.toNat : Int) == (n : Int)) = (b == UInt8.ofNat n) := by
  rw [Bool.eq_iff_iff]
  simp only [beq_iff_eq]
  constructor
  · intro h
    have : b.toNat = n := by omega
    subst this
    simp
  · rintro rfl
    simp
    omega

set_option maxHeartbeats 800000 in
theorem host_any (b : UInt8) (w : World) : Calls Tryd.prog 31 #[.int .u8 b.toNat] w fun e w' => e = .returned (.bool (host b)) ∧ w = w' := by
  have h1 : ∀ wx, Calls Tryd.prog 36 #[.int .u8 b.toNat] wx fun e w' => e = .returned (.bool (isL b)) ∧ wx = w' := fun wx => alpha_any b wx
  have h2 : ∀ wx, Calls Tryd.prog 32 #[.int .u8 b.toNat] wx fun e w' => e = .returned (.bool (isD b)) ∧ wx = w' := fun wx => dec_any b wx
  have z1 : ((b.toNat : Int) == 45) = (b == 45) := u8_beq b 45 (by omega)
  have z2 : ((b.toNat : Int) == 95) = (b == 95) := u8_beq b 95 (by omega)
  unfold host
  obtain ⟨x, hx⟩ : ∃ x, x = isL b := ⟨_, rfl⟩
  obtain ⟨y, hy⟩ : ∃ y, y = isD b := ⟨_, rfl⟩
  rw [← hx] at h1 ⊢
  rw [← hy] at h2 ⊢
  clear hx hy
  obtain ⟨z, hz⟩ : ∃ z, z = (b == 45) := ⟨_, rfl⟩
  obtain ⟨u, hu⟩ : ∃ u, u = (b == 95) := ⟨_, rfl⟩
  rw [← hz] at z1 ⊢
  rw [← hu] at z2 ⊢
  clear hz hu
  cases x
  · cases y
    · cases z
      · go_enter Tryd.func31, Tryd.ntmps31
        go_wp2_with fail
        refine (h1 _).mono ?_
        rintro e w1 ⟨rfl, rfl⟩
        go_wp2_with fail
        refine (h2 _).mono ?_
        rintro e w1 ⟨rfl, rfl⟩
        go_wp2
        go_ret
        exact ⟨rfl, rfl⟩
      · go_enter Tryd.func31, Tryd.ntmps31
        go_wp2_with fail
        refine (h1 _).mono ?_
        rintro e w1 ⟨rfl, rfl⟩
        go_wp2_with fail
        refine (h2 _).mono ?_
        rintro e w1 ⟨rfl, rfl⟩
        go_wp2
        go_ret
        exact ⟨rfl, rfl⟩
    · go_enter Tryd.func31, Tryd.ntmps31
      go_wp2_with fail
      refine (h1 _).mono ?_
      rintro e w1 ⟨rfl, rfl⟩
      go_wp2_with fail
      refine (h2 _).mono ?_
      rintro e w1 ⟨rfl, rfl⟩
      go_wp2
      go_ret
      exact ⟨rfl, rfl⟩
  · go_enter Tryd.func31, Tryd.ntmps31
    go_wp2_with fail
    refine (h1 _).mono ?_
    rintro e w1 ⟨rfl, rfl⟩
    go_wp2
    go_ret
    exact ⟨rfl, rfl⟩

def marks : List UInt8 := [33, 35, 36, 37, 38, 39, 42, 43, 45, 47, 61, 63, 94, 95, 96, 123, 124, 125, 126]
def atx (b : UInt8) : Bool := isL b || isD b || marks.contains b

set_option maxHeartbeats 800000 in
theorem bytes9_ok (s : ByteArray) (w : World) (h1 : s.size ≤ 1048576) : Calls Tryd.prog 9 #[.string s] w fun e w' => e = .returned (.bool true) ∧ w = w' := by
  have z1 : ¬ ((s.size : Int) > 1048576) := by omega
  go_enter Tryd.func9, Tryd.ntmps9
  go_wp2
  go_ret
  exact ⟨rfl, rfl⟩

set_option maxHeartbeats 800000 in
theorem bytes9_no (s : ByteArray) (w : World) (h : 1048576 < s.size) : Calls Tryd.prog 9 #[.string s] w fun e w' => e = .returned (.bool false) ∧ w = w' := by
  have z1 : ((s.size : Int) > 1048576) := by omega
  go_enter Tryd.func9, Tryd.ntmps9
  go_wp2
  go_ret
  exact ⟨rfl, rfl⟩

set_option maxHeartbeats 800000 in
theorem bytes16_ok (s : ByteArray) (w : World) (h1 : s.size ≤ 1048576) : Calls Tryd.prog 16 #[.string s] w fun e w' => e = .returned (.bool true) ∧ w = w' := by
  have z1 : ¬ ((s.size : Int) > 1048576) := by omega
  go_enter Tryd.func16, Tryd.ntmps16
  go_wp2
  go_ret
  exact ⟨rfl, rfl⟩

set_option maxHeartbeats 800000 in
theorem bytes16_no (s : ByteArray) (w : World) (h : 1048576 < s.size) : Calls Tryd.prog 16 #[.string s] w fun e w' => e = .returned (.bool false) ∧ w = w' := by
  have z1 : ((s.size : Int) > 1048576) := by omega
  go_enter Tryd.func16, Tryd.ntmps16
  go_wp2
  go_ret
  exact ⟨rfl, rfl⟩

set_option maxHeartbeats 3200000 in
theorem atext_any (b : UInt8) (w : World) : Calls Tryd.prog 26 #[.int .u8 b.toNat] w fun e w' => e = .returned (.bool (atx b)) ∧ w = w' := by
  have h1 : ∀ wx, Calls Tryd.prog 36 #[.int .u8 b.toNat] wx fun e w' => e = .returned (.bool (isL b)) ∧ wx = w' := fun wx => alpha_any b wx
  have h2 : ∀ wx, Calls Tryd.prog 32 #[.int .u8 b.toNat] wx fun e w' => e = .returned (.bool (isD b)) ∧ wx = w' := fun wx => dec_any b wx
  unfold atx
  obtain ⟨x, hx⟩ : ∃ x, x = isL b := ⟨_, rfl⟩
  obtain ⟨y, hy⟩ : ∃ y, y = isD b := ⟨_, rfl⟩
  rw [← hx] at h1 ⊢
  rw [← hy] at h2 ⊢
  clear hx hy
  cases x
  · cases y
    · by_cases hm : b ∈ marks
      · have e : marks.contains b = true := by simpa using hm
        rw [e]
        clear e
        simp only [marks, List.mem_cons, List.not_mem_nil, or_false] at hm
        rcases hm with rfl | rfl | rfl | rfl | rfl | rfl | rfl | rfl | rfl | rfl | rfl | rfl | rfl | rfl | rfl | rfl | rfl | rfl | rfl <;> (
          go_enter Tryd.func26, Tryd.ntmps26
          go_wp2_with fail
          refine (h1 _).mono ?_
          rintro e w1 ⟨rfl, rfl⟩
          go_wp2_with fail
          refine (h2 _).mono ?_
          rintro e w1 ⟨rfl, rfl⟩
          go_wp2
          go_ret
          exact ⟨rfl, rfl⟩)
      · have e : marks.contains b = false := by simpa using hm
        rw [e]
        clear e
        simp only [marks, List.mem_cons, List.not_mem_nil, or_false, not_or] at hm
        obtain ⟨k1, k2, k3, k4, k5, k6, k7, k8, k9, k10, k11, k12, k13, k14, k15, k16, k17, k18, k19⟩ := hm
        have ne : ∀ n : Nat, n < 256 → b ≠ UInt8.ofNat n → ((b.toNat : Int) == (n : Int)) = false := fun n hn hb => by rw [u8_beq b n hn]; simpa using hb
        have z1 : ((b.toNat : Int) == 33) = false := ne 33 (by omega) k1
        have z2 : ((b.toNat : Int) == 35) = false := ne 35 (by omega) k2
        have z3 : ((b.toNat : Int) == 36) = false := ne 36 (by omega) k3
        have z4 : ((b.toNat : Int) == 37) = false := ne 37 (by omega) k4
        have z5 : ((b.toNat : Int) == 38) = false := ne 38 (by omega) k5
        have z6 : ((b.toNat : Int) == 39) = false := ne 39 (by omega) k6
        have z7 : ((b.toNat : Int) == 42) = false := ne 42 (by omega) k7
        have z8 : ((b.toNat : Int) == 43) = false := ne 43 (by omega) k8
        have z9 : ((b.toNat : Int) == 45) = false := ne 45 (by omega) k9
        have z10 : ((b.toNat : Int) == 47) = false := ne 47 (by omega) k10
        have z11 : ((b.toNat : Int) == 61) = false := ne 61 (by omega) k11
        have z12 : ((b.toNat : Int) == 63) = false := ne 63 (by omega) k12
        have z13 : ((b.toNat : Int) == 94) = false := ne 94 (by omega) k13
        have z14 : ((b.toNat : Int) == 95) = false := ne 95 (by omega) k14
        have z15 : ((b.toNat : Int) == 96) = false := ne 96 (by omega) k15
        have z16 : ((b.toNat : Int) == 123) = false := ne 123 (by omega) k16
        have z17 : ((b.toNat : Int) == 124) = false := ne 124 (by omega) k17
        have z18 : ((b.toNat : Int) == 125) = false := ne 125 (by omega) k18
        have z19 : ((b.toNat : Int) == 126) = false := ne 126 (by omega) k19
        clear ne k1 k2 k3 k4 k5 k6 k7 k8 k9 k10 k11 k12 k13 k14 k15 k16 k17 k18 k19
        go_enter Tryd.func26, Tryd.ntmps26
        go_wp2_with fail
        refine (h1 _).mono ?_
        rintro e w1 ⟨rfl, rfl⟩
        go_wp2_with fail
        refine (h2 _).mono ?_
        rintro e w1 ⟨rfl, rfl⟩
        go_wp2
        go_ret
        exact ⟨rfl, rfl⟩
    · go_enter Tryd.func26, Tryd.ntmps26
      go_wp2_with fail
      refine (h1 _).mono ?_
      rintro e w1 ⟨rfl, rfl⟩
      go_wp2_with fail
      refine (h2 _).mono ?_
      rintro e w1 ⟨rfl, rfl⟩
      go_wp2
      go_ret
      exact ⟨rfl, rfl⟩
  · go_enter Tryd.func26, Tryd.ntmps26
    go_wp2_with fail
    refine (h1 _).mono ?_
    rintro e w1 ⟨rfl, rfl⟩
    go_wp2
    go_ret
    exact ⟨rfl, rfl⟩
end Go.Proofs.Qxb6603125aDoor
