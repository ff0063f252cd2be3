import Derived.Test.Qxb6602721aDoorChecked
import Derived.WalkKit
import Derived.WalkSpells
import Derived.Deep.AppendLies
import Derived.Deep.Draws
import Derived.Deep.Cut
import Derived.Deep.CutRange
import Derived.Deep.CutBlock
import Derived.OwnWalk
import Derived.Maps.AppendAt
namespace Go.Proofs.Qxb6602721aDoor
open Go.RowKit
open Go

structure Fr (F : Nat → Prop) (w w' : World) : Prop where
  os : w'.os = w.os
  tape : w'.tape = w.tape
  output : w'.output = w.output
  size : w.heap.size ≤ w'.heap.size
  block : ∀ k, k < w.heap.size → ¬ F k → w'.heap[k]? = w.heap[k]?

theorem Fr.refl (F : Nat → Prop) (w : World) : Fr F w w := ⟨rfl, rfl, rfl, Nat.le_refl _, fun _ _ _ => rfl⟩
theorem Fr.trans {F F' : Nat → Prop} {a b c : World} (h : Fr F a b) (k : Fr F' b c) (hF : ∀ i, F' i → F i ∨ a.heap.size ≤ i) : Fr F a c :=
  ⟨k.os.trans h.os, k.tape.trans h.tape, k.output.trans h.output, Nat.le_trans h.size k.size, fun i hi hn =>
    (k.block i (Nat.lt_of_lt_of_le hi h.size) (fun hf => by rcases hF i hf with h1 | h1; exact hn h1; omega)).trans (h.block i hi hn)⟩
theorem Fr.mono {F F' : Nat → Prop} {a b : World} (h : Fr F a b) (hF : ∀ i, F i → F' i) : Fr F' a b :=
  ⟨h.os, h.tape, h.output, h.size, fun i hi hn => h.block i hi (fun hf => hn (hF i hf))⟩
theorem Fr.alloc {F : Nat → Prop} (w : World) (o : Obj) : Fr F w (w.alloc o) :=
  ⟨rfl, rfl, rfl, by simp, fun k hk _ => Below.heap_alloc _ _ _ hk⟩
theorem Fr.drewN {F : Nat → Prop} (w : World) (n : Nat) : Fr F w (w.drewN n) := ⟨rfl, rfl, rfl, Nat.le_refl _, fun _ _ _ => rfl⟩
theorem Fr.drew {F : Nat → Prop} (w : World) : Fr F w w.drew := ⟨rfl, rfl, rfl, Nat.le_refl _, fun _ _ _ => rfl⟩
theorem Fr.grown {F : Nat → Prop} {w w' : World} {row : Option Nat} (h : w.grownBy w' row) (hr : ∀ k, row = some k → F k) : Fr F w w' :=
  ⟨h.os, h.tape, h.output, h.size, fun k hk hn => h.block k hk (fun e => hn (hr k e.symm))⟩
theorem Fr.below {F : Nat → Prop} {B : Nat} {w w' : World} (h : Fr F w w') (hB : B ≤ w.heap.size) (hF : ∀ k, F k → B ≤ k) : Below B w w' :=
  ⟨h.os, h.tape, h.output, h.size, fun k hk => h.block k (by omega) (fun e => by have := hF k e; omega)⟩
theorem Fr.of_below {F : Nat → Prop} {w w' : World} (h : Below w.heap.size w w') : Fr F w w' :=
  ⟨h.os, h.tape, h.output, h.size, fun k hk _ => h.block k hk⟩
theorem Fr.cell {F : Nat → Prop} {w w' : World} (h : Fr F w w') {p : Addr} (hp : p.block < w.heap.size) (hn : ¬ F p.block) : w'.cell? p = w.cell? p :=
  World.cell?_of_block (w := w) (h.block p.block hp hn)
theorem lt_of_block {w : World} {b : Nat} {o : Obj} (h : w.heap[b]? = some o) : b < w.heap.size := (Array.getElem?_eq_some_iff.1 h).1
theorem Fr.owns {F : Nat → Prop} {w w' : World} (h : Fr F w w') {base : Nat} {e : TypeId} {size : Nat} {v : Value} {n : Nat} {xs : List Value} (ho : w.ownsRow base e size v n xs)
    (hn : ∀ k, v.ownBlock = some k → ¬ F k) : w'.ownsRow base e size v n xs := by
  refine ⟨ho.1, ?_⟩
  rcases ho.2 with h2 | ⟨g, cap, cur, rfl, hg, hh, r⟩
  · exact .inl h2
  · exact .inr ⟨g, cap, cur, rfl, hg, by rw [h.block g (lt_of_block hh) (hn g rfl)]; exact hh, r⟩
theorem own_form {w : World} {base : Nat} {e : TypeId} {size : Nat} {v : Value} {n : Nat} {xs : List Value} (h : w.ownsRow base e size v n xs) : ∃ ao cap, v = .slice ao n cap ∧ n ≤ cap ∧ (ao = none → cap = 0) ∧ (∀ a, ao = some a → ∃ g, a = ⟨g, 0, none⟩) := by
  rcases h.2 with ⟨rfl, rfl⟩ | ⟨g, cap, cur, rfl, _, hh, hc, _⟩
  · exact ⟨none, 0, rfl, Nat.le_refl _, fun _ => rfl, fun a e => by cases e⟩
  · exact ⟨some ⟨g, 0, none⟩, cap, rfl, hc, (fun e => by cases e), fun a e => ⟨g, by cases e; rfl⟩⟩

def ub (xs : List UInt8) : List Value := xs.map fun b => Value.int .u8 b.toNat
def at_ (xs : List UInt8) (i : Nat) : Int := ((xs.getD i 0).toNat : Int)

theorem ub_len (xs : List UInt8) : (ub xs).length = xs.length * 1 := by simp [ub]
theorem ub_app (xs ys : List UInt8) : ub xs ++ ub ys = ub (xs ++ ys) := by simp [ub]
theorem ub_one (xs : List UInt8) : ∀ u ∈ ub xs, u.oneCell' = true := by
  intro u hu
  simp [ub] at hu
  obtain ⟨x, _, rfl⟩ := hu
  rfl

theorem Tryd.info5 : (Tryd.prog.info? 5).map (fun i => (i.zero, i.size, i.bytes)) = some (some (.int .u8 0), 1, 1) := by kernel_rfl
theorem info_parts {P : Program} {e : TypeId} {z : Value} {s b : Nat} (h : (P.info? e).map (fun i => (i.zero, i.size, i.bytes)) = some (some z, s, b)) : ∃ i, P.info? e = some i ∧ i.zero = some z ∧ i.size = s ∧ i.bytes = b := by
  obtain ⟨i, hi, hx⟩ := Option.map_eq_some_iff.1 h
  simp only [Prod.mk.injEq] at hx
  exact ⟨i, hi, hx.1, hx.2.1, hx.2.2⟩

theorem size_list (s : ByteArray) : s.size = s.data.toList.length := by simp

theorem idx_str (s : ByteArray) (i : Nat) (h : i < s.size) (w : World) : (Instr.index 9 (.string s) (.int .i64 i)).run Tryd.prog w = .ok (.int .u8 (at_ s.data.toList i)) w := by
  have hh : (0 : Int) ≤ (i : Int) ∧ (i : Int) < (s.size : Int) := by omega
  rw [run_index_string w 9 s .i64 i Tryd.underlying9, dif_pos hh]
  congr 2
  have h2 : i < s.data.size := h
  have e3 : s.data[i]? = some s.data[i] := Array.getElem?_eq_getElem h2
  simp only [at_, List.getD, Array.getElem?_toList, e3]
  rfl

def isD (b : UInt8) : Bool := decide (48 ≤ b.toNat ∧ b.toNat ≤ 57)

set_option maxHeartbeats 800000 in
theorem digit_any (b : UInt8) (w : World) : Calls Tryd.prog 14 #[.int .u8 b.toNat] w fun e w' => e = .returned (.bool (isD b)) ∧ w = w' := by
  by_cases h1 : 48 ≤ b.toNat
  · have z1 : (b.toNat : Int) ≥ 48 := by omega
    by_cases h2 : b.toNat ≤ 57
    · have z2 : (b.toNat : Int) ≤ 57 := by omega
      have e : isD b = true := by simp [isD, h1, h2]
      rw [e]
      go_enter Tryd.func14, Tryd.ntmps14
      go_wp2
      go_ret
      exact ⟨rfl, rfl⟩
    · have z2 : ¬ (b.toNat : Int) ≤ 57 := by omega
      have e : isD b = false := by simp [isD]; omega
      rw [e]
      go_enter Tryd.func14, Tryd.ntmps14
      go_wp2
      go_ret
      exact ⟨rfl, rfl⟩
  · have z1 : ¬ (b.toNat : Int) ≥ 48 := by omega
    have e : isD b = false := by simp [isD]; omega
    rw [e]
    go_enter Tryd.func14, Tryd.ntmps14
    go_wp2
    go_ret
    exact ⟨rfl, rfl⟩

set_option maxHeartbeats 800000 in
theorem bytes_ok (s : ByteArray) (k : Int) (w : World) (h1 : s.size ≤ 1048576) : Calls Tryd.prog 5 #[.string s, .int .i64 k] w fun e w' => e = .returned (.bool true) ∧ w = w' := by
  have z1 : ¬ ((s.size : Int) > 1048576) := by omega
  go_enter Tryd.func5, Tryd.ntmps5
  go_wp2
  go_ret
  exact ⟨rfl, rfl⟩

set_option maxHeartbeats 800000 in
theorem bytes_no (s : ByteArray) (k : Int) (w : World) (h : 1048576 < s.size) : Calls Tryd.prog 5 #[.string s, .int .i64 k] w fun e w' => e = .returned (.bool false) ∧ w = w' := by
  have z1 : ((s.size : Int) > 1048576) := by omega
  go_enter Tryd.func5, Tryd.ntmps5
  go_wp2
  go_ret
  exact ⟨rfl, rfl⟩

def Zeroed (w : World) (v : Value) (xs : List UInt8) (m : Nat) (e : Ending) (w' : World) : Prop :=
  ∃ v', e = .returned v' ∧ w'.ownsRow 0 5 1 v' (xs.length + m) (ub (xs ++ List.replicate m 48)) ∧ Fr (fun k => v.ownBlock = some k) w w' ∧ ∀ k, v'.ownBlock = some k → v.ownBlock = some k ∨ w.heap.size ≤ k

set_option maxHeartbeats 1600000 in
theorem zeros_any (v : Value) (xs : List UInt8) (m : Nat) (w : World) (hown : w.ownsRow 0 5 1 v xs.length (ub xs)) (hx : xs.length ≤ 4194304) (hm : m ≤ 4194304) :
    Calls Tryd.prog 13 #[v, .int .i64 m] w fun e w' => Zeroed w v xs m e w' := by
  obtain ⟨i5, hi5, hj0, hj1, hj2⟩ := info_parts Tryd.info5
  obtain ⟨ao, cap, hv, _⟩ := own_form hown
  have HO : Hid (w.ownsRow 0 5 1 v xs.length (ub xs)) := hown
  clear hown
  have HV : Hid (v = .slice ao xs.length cap) := hv
  rw [hv]
  clear hv
  go_enter Tryd.func13, Tryd.ntmps13
  go_wp2
  go_loopg [0, 5] m (fun g s0 s5 wx => ∃ i : Nat, i + g = m ∧ s5 = .int .i64 i ∧ wx.ownsRow 0 5 1 s0 (xs.length + i) (ub (xs ++ List.replicate i 48)) ∧ Fr (fun k => v.ownBlock = some k) w wx ∧ ∀ k, s0.ownBlock = some k → v.ownBlock = some k ∨ w.heap.size ≤ k)
  case atStart => exact ⟨0, by omega, rfl, by rw [← HV.out]; simpa using HO.out, Fr.refl _ _, fun k e => .inl (by rw [HV.out]; exact e)⟩
  case round =>
    rename_i s0
    obtain ⟨i, hig, rfl, ho, hf, hk⟩ := hrel
    obtain ⟨ao1, cap1, hv1, _⟩ := own_form ho
    subst hv1
    cases gk with
    | zero =>
      obtain rfl : i = m := by omega
      have HR : Hid _ := And.intro ho (And.intro hf hk)
      clear ho hf hk
      go_wp2
      go_ret
      rw [← HV.out]
      exact ⟨_, rfl, HR.out.1, HR.out.2.1, HR.out.2.2⟩
    | succ g =>
      have hiz : (i : Int) < (m : Int) := by omega
      have own1 := ho.alloc (.cells #[.int .u8 48] 5)
      have HR : Hid _ := And.intro ho (And.intro hf hk)
      clear ho hf hk
      go_wp2_with (at_builtin; refine wpList_append_own_at _ rfl (.tmp 11) (.tmp 12) 31 rfl 0 5 i5 (.int .u8 0) 1 1 Tryd.underlying31 hi5 hj0 hj1 hj2 rfl (by decide) _ (xs.length + i) (ub (xs ++ List.replicate i 48)) rfl own1 ⟨wr.heap.size, 0, none⟩ 1 1 (ub [48]) rfl rfl (cell_one_new _ _ _) (ub_one _) (by unfold maxLen; omega) (by omega) (Nat.zero_le _) ?_)
      intro v' w2 hown' hgrow _ hat
      obtain ⟨ao2, cap2, hv2, _⟩ := own_form hown'
      have HR2 : Hid _ := And.intro hown' (And.intro hgrow hat)
      clear hown' hgrow hat own1
      subst hv2
      go_wp2
      go_roundg g
      case measure => omega
      case rel =>
        obtain ⟨r1, r2, r3⟩ := HR2.out
        obtain ⟨q1, q2, q3⟩ := HR.out
        have hs := q2.size
        refine ⟨i + 1, by omega, by first | rfl | simp, ?_, q2.trans ((Fr.alloc _ _).trans (Fr.grown r2 (fun k hk => hk)) (fun k hk => .inl hk)) (fun k hk => q3 k hk), fun k hk => ?_⟩
        · rw [ub_app, List.append_assoc, ← List.replicate_succ'] at r1
          exact r1
        · rcases r3 with e | e
          · exact q3 k (by rw [← e]; exact hk)
          · rw [hk] at e; simp at e; exact .inr (by omega)
end Go.Proofs.Qxb6602721aDoor
