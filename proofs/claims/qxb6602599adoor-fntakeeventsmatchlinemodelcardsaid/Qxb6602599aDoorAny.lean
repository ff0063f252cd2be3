import Derived.Test.Qxb6602599aDoorLine
import Derived.Test.Qxb6602599aDoorDec
import Derived.Deep.LoopGhost
import Derived.Laws.RangeString
namespace Go.Proofs.Qxb6602599aDoor
open Go.RowKit
open Go

namespace M
def eol (c : Int) : Bool := c == 13 || c == 10
def brk (xs : List Int) : Nat := (xs.takeWhile fun c => !eol c).length
def brkI (xs : List Int) : Int := if brk xs < xs.length then brk xs else -1
theorem brk_le (xs : List Int) : brk xs ≤ xs.length := by
  unfold brk; exact (List.takeWhile_sublist _).length_le
theorem brk_step : ∀ {xs : List Int} {i : Nat}, i ≤ brk xs → i < xs.length → eol (xs.getD i 0) = false → i + 1 ≤ brk xs
  | [], i, _, h2, _ => by simp at h2
  | x :: r, 0, _, _, h3 => by
    have h3' : eol x = false := by simpa using h3
    simp [brk, h3']
  | x :: r, i + 1, h1, h2, h3 => by
    unfold brk at h1 ⊢
    cases he : eol x
    · simp only [List.takeWhile_cons, he, Bool.not_false, if_true, List.length_cons] at h1 ⊢
      have := brk_step (xs := r) (i := i) (by unfold brk; omega) (by simpa using h2) (by simpa using h3)
      unfold brk at this; omega
    · simp [he] at h1
theorem brk_hit : ∀ {xs : List Int} {i : Nat}, i ≤ brk xs → i < xs.length → eol (xs.getD i 0) = true → brk xs = i
  | [], i, _, h2, _ => by simp at h2
  | x :: r, 0, _, _, h3 => by
    have h3' : eol x = true := by simpa using h3
    simp [brk, h3']
  | x :: r, i + 1, h1, h2, h3 => by
    unfold brk at h1 ⊢
    cases he : eol x
    · simp only [List.takeWhile_cons, he, Bool.not_false, if_true, List.length_cons] at h1 ⊢
      have := brk_hit (xs := r) (i := i) (by unfold brk; omega) (by simpa using h2) (by simpa using h3)
      unfold brk at this; omega
    · simp [he] at h1
theorem brkI_hit {xs : List Int} {i : Nat} (h1 : i ≤ brk xs) (h2 : i < xs.length) (h3 : eol (xs.getD i 0) = true) : brkI xs = i := by
  rw [brkI, brk_hit h1 h2 h3, if_pos h2]
theorem brkI_end {xs : List Int} (h1 : xs.length ≤ brk xs) : brkI xs = -1 := by
  rw [brkI, if_neg (by omega)]
end M

theorem u8_of {x : Int} (h : 0 ≤ x ∧ x < 256) : ∃ u : UInt8, x = (u.toNat : Int) ∧ [(13 : UInt8), 10].contains u = M.eol x := by
  refine ⟨UInt8.ofNat x.toNat, ?_, ?_⟩
  · simp only [UInt8.toNat_ofNat']
    have : x.toNat % 2 ^ 8 = x.toNat := Nat.mod_eq_of_lt (by omega)
    omega
  · have e13 := byte_eq (x := x) (c := 13) h (by omega)
    have e10 := byte_eq (x := x) (c := 10) h (by omega)
    have e13' : (UInt8.ofNat x.toNat == (13 : UInt8)) = (x == 13) := e13
    have e10' : (UInt8.ofNat x.toNat == (10 : UInt8)) = (x == 10) := e10
    simp only [List.contains_cons, List.contains_nil, Bool.or_false, e13', e10', M.eol]

def crlf : ByteArray := ⟨#[13, 10]⟩

theorem call25 (x : Int) (hx : 0 ≤ x ∧ x < 256) (w : World) : (callFunc 25 #[.string ⟨#[13, 10]⟩, .int .u8 x]).run Tryd.prog w = .ok (.value (.int .i64 (if x = 13 then 0 else if x = 10 then 1 else -1))) w := by
  rw [run_callFunc_extern Tryd.func25 (by kernel_rfl) (by kernel_rfl) (by kernel_rfl) (e := Extern.BytealgIndexByte.indexByte) (by kernel_rfl), Lib.run_indexByteString, idx_eol x hx]
  rfl

set_option maxHeartbeats 800000 in
theorem any_one (pb po c : Nat) (x : Int) (w : World) (hx : 0 ≤ x ∧ x < 256) (hc : w.cell? ⟨pb, po, none⟩ = some (.int .u8 x)) :
    Calls Tryd.prog 20 #[.slice (some ⟨pb, po, none⟩) 1 c, .string ⟨#[13, 10]⟩] w fun e w' => e = .returned (.int .i64 (M.brkI [x])) ∧ Fr (fun _ => False) w w' := by
  have h25 := call25 x hx
  by_cases h128 : x < 128
  · by_cases h13 : x = 13
    · subst h13
      go_enter Tryd.func20, Tryd.ntmps20
      go_wp2
      go_ret
      exact ⟨rfl, Fr.refl _ _⟩
    · by_cases h10 : x = 10
      · subst h10
        go_enter Tryd.func20, Tryd.ntmps20
        go_wp2
        go_ret
        exact ⟨rfl, Fr.refl _ _⟩
      · rw [if_neg h13, if_neg h10] at h25
        have hv : M.brkI [x] = -1 := by simp [M.brkI, M.brk, M.eol, h13, h10]
        rw [hv]
        go_enter Tryd.func20, Tryd.ntmps20
        go_wp2
        go_ret
        exact ⟨rfl, Fr.refl _ _⟩
  · have hv : M.brkI [x] = -1 := by
      have h13 : ¬ x = 13 := by omega
      have h10 : ¬ x = 10 := by omega
      simp [M.brkI, M.brk, M.eol, h13, h10]
    rw [hv]
    have n0 := fun ty => run_next_ascii (P := Tryd.prog) w ⟨#[13, 10]⟩ 0 ty (by decide) (by decide)
    have n1 := fun ty => run_next_ascii (P := Tryd.prog) w ⟨#[13, 10]⟩ 1 ty (by decide) (by decide)
    have n2 := run_next_end (P := Tryd.prog) w ⟨#[13, 10]⟩ 2
    go_enter Tryd.func20, Tryd.ntmps20
    go_wp2
    refine wp_loop_rounds 3 ?_
    rw [rounds_succ]
    go_wp2
    rw [rounds_succ]
    go_wp2
    rw [rounds_succ]
    go_wp2
    go_ret
    exact ⟨rfl, Fr.alloc _ _⟩

set_option maxHeartbeats 4000000 in
set_option maxRecDepth 1000000 in
theorem any_long (pb po n c : Nat) (xs : List Int) (w : World) (hx : xs.length = n) (hB : IsB xs) (hc : ∀ i, i < n → w.cell? ⟨pb, po + i, none⟩ = some (.int .u8 (xs.getD i 0))) (h8 : 8 < n) (hn : n ≤ 1048576) :
    Calls Tryd.prog 20 #[.slice (some ⟨pb, po, none⟩) n c, .string ⟨#[13, 10]⟩] w fun e w' => e = .returned (.int .i64 (M.brkI xs)) ∧ Fr (fun _ => False) w w' := by
  have hM := Tryd.bytes_makeASCIISet ⟨#[13, 10]⟩ w (by decide) (by intro j b hb; match j, hb with | 0, hb => cases hb; decide | 1, hb => cases hb; decide)
  have hsize := Lib.setCells_size [13, 10]
  have hsc : (storeCells ⟨w.heap.size + 1, 0, none⟩ (Lib.setCells [13, 10]).toList 0).run Tryd.prog ((w.alloc (.cells (Lib.setCells [13, 10]) 56)).alloc (.cells (Array.replicate 256 (.bool false)) 56)) = .ok () ((w.alloc (.cells (Lib.setCells [13, 10]) 56)).alloc (.cells (Lib.setCells [13, 10]) 56)) := by
    have := run_storeCells_new (P := Tryd.prog) (w.alloc (.cells (Lib.setCells [13, 10]) 56)) 56 (Array.replicate 256 (.bool false)) (Lib.setCells [13, 10]) (by rw [hsize]; kernel_rfl) (by rw [hsize, Array.size_replicate]) (Lib.setCells_one _)
    simpa using this
  have hM' : Calls Tryd.prog 28 #[.string ⟨#[13, 10]⟩] w fun e w' => e = .returned (.tuple #[.agg (Lib.setCells [13, 10]), .bool true]) ∧ w' = w.alloc (.cells (Lib.setCells [13, 10]) 56) := hM
  have hcellAt : ∀ x : UInt8, ((w.alloc (.cells (Lib.setCells [13, 10]) 56)).alloc (.cells (Lib.setCells [13, 10]) 56)).cell? ⟨w.heap.size + 1, x.toNat, none⟩ = some (.bool ([(13 : UInt8), 10].contains x)) := fun x => by
    rw [World.cell?_alloc_at _ _ _ _ (by simp), Lib.setCells_at]
  have HC : Hid _ := hcellAt
  have HX : Hid (xs.length = n) := hx
  have HB : Hid (IsB xs) := hB
  have hlt : ∀ i, i < n → pb < w.heap.size := fun i hi => World.block_lt_of_cell? w _ (hc i hi)
  have HD : Hid (∀ i, i < n → ((w.alloc (.cells (Lib.setCells [13, 10]) 56)).alloc (.cells (Lib.setCells [13, 10]) 56)).cell? ⟨pb, po + i, none⟩ = some (.int .u8 (xs.getD i 0))) := fun i hi => by
    rw [World.cell?_alloc_past _ _ _ (by have := hlt i hi; simp; omega), World.cell?_alloc_past _ _ _ (hlt i hi)]; exact hc i hi
  have hz56 := Tryd.zero56
  clear hcellAt hx hB hM hc hlt hsize
  go_enter Tryd.func20, Tryd.ntmps20
  go_wp2_with (first | (go_at_call 28; refine hM'.mono ?_; rintro e w' ⟨rfl, hw⟩; rw [hw]) | (go_at_call 27; go_in))
  clear hM' hsc hz56
  go_loopg [62] n (fun g s62 wx => ∃ i : Nat, i + g = n ∧ s62 = .int .i64 i ∧ wx = ((w.alloc (.cells (Lib.setCells [13, 10]) 56)).alloc (.cells (Lib.setCells [13, 10]) 56)) ∧ i ≤ M.brk xs)
  case atStart => exact ⟨0, by omega, rfl, rfl, Nat.zero_le _⟩
  case round =>
    obtain ⟨i, hig, rfl, rfl, hib⟩ := hrel
    cases gk with
    | zero =>
      obtain rfl : i = n := by omega
      have hiz : ¬ ((i : Int) < (i : Int)) := by omega
      go_wp2
      go_ret
      exact ⟨by rw [M.brkI_end (by rw [HX.out]; exact hib)]; rfl, Fr.trans (Fr.alloc (F := fun _ => False) _ _) (Fr.alloc (F := fun _ => False) _ _) (fun _ e => .inl e)⟩
    | succ g =>
      have hi : i < n := by omega
      have hiz : (i : Int) < (n : Int) := by omega
      have hxi : 0 ≤ xs.getD i 0 ∧ xs.getD i 0 < 256 := HB.out _ (by
        have h : i < xs.length := by rw [HX.out]; exact hi
        simp [List.getD, h])
      obtain ⟨u, hu, hcon⟩ := u8_of hxi
      have hcell := HD.out i hi
      rw [hu] at hcell
      have hset := HC.out u
      rw [hcon] at hset
      have hct := fun wx h => Tryd.bytes_asciiSet_contains (w.heap.size + 1) u (M.eol (xs.getD i 0)) wx h
      have HI : Hid (i ≤ M.brk xs) := hib
      clear hcon hib
      cases he : M.eol (xs.getD i 0)
      · rw [he] at hset hct
        have HE : Hid _ := he
        have HU : Hid _ := hu
        clear he hu hxi
        go_wp2_with (go_at_call 29; refine (hct _ hset).mono ?_; rintro e w' ⟨rfl, hw⟩; rw [hw])
        go_roundg g
        case measure => omega
        case rel => exact ⟨i + 1, by omega, by first | rfl | simp, rfl, M.brk_step HI.out (by rw [HX.out]; exact hi) HE.out⟩
      · rw [he] at hset hct
        have HE : Hid _ := he
        have HU : Hid _ := hu
        clear he hu hxi
        go_wp2_with (go_at_call 29; refine (hct _ hset).mono ?_; rintro e w' ⟨rfl, hw⟩; rw [hw])
        go_ret
        exact ⟨by rw [M.brkI_hit HI.out (by rw [HX.out]; exact hi) HE.out]; rfl, Fr.trans (Fr.alloc (F := fun _ => False) _ _) (Fr.alloc (F := fun _ => False) _ _) (fun _ e => .inl e)⟩
end Go.Proofs.Qxb6602599aDoor
