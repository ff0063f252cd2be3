import Derived.Test.Qxb6603202aDoorAll
import Derived.Test.Qxb6603202aDoorSpe
import Derived.Lib.AppendIntMem
import Derived.Lib.AppendStr
import Derived.Deep.RegionWith
namespace Go.Proofs.Qxb6603202aDoor
open Go.RowKit
open Go

theorem Env.below {w w' : World} {m : Int} (h : Env w m) (hb : Below w.heap.size w w') : Env w' m :=
  ⟨Lib.tabBelow_of_tabIs h.tab w' hb, Utf8Tabs_below h.u8 hb, WhiteTab_below h.ws hb, by
    rw [(Fr.of_below (F := fun _ => False) hb).cell (p := ⟨2, 0, none⟩) (World.block_lt_of_cell? w _ h.max) (fun e => e)]; exact h.max⟩

set_option maxHeartbeats 800000 in
theorem zz_any (s : ByteArray) (m : Int) (w : World) (hs : s.size ≤ 1048576) (henv : Env w m) :
    Calls Tryd.prog 8 #[.string s] w fun e w' => e = .returned (.string (bs (sqz false (Lib.trimSpaceD s.data.toList)))) ∧ Fr (fun _ => False) w w' := by
  have h := trimAll_any s m w hs henv
  obtain ⟨O, hO⟩ : ∃ O, O = bs (sqz false (Lib.trimSpaceD s.data.toList)) := ⟨_, rfl⟩
  rw [← hO] at h ⊢
  clear hO henv
  go_enter Tryd.func8, Tryd.ntmps8
  go_wp2_with fail
  refine h.mono ?_
  rintro e w1 ⟨rfl, hf⟩
  have HF : Hid _ := hf
  clear hf
  go_wp2
  go_ret
  exact ⟨rfl, HF.out⟩

theorem add_plain (b o i : Nat) : (⟨b, o, none⟩ : Addr).add i = ⟨b, o + i, none⟩ := by unfold Addr.add; split <;> simp_all

structure Row (wA w : World) (g cap : Nat) (xs : List UInt8) : Prop where
  own : w.ownsRow wA.heap.size 5 1 (.slice (some ⟨g, 0, none⟩) xs.length cap) xs.length (ub xs)
  fr : Fr (fun k => wA.heap.size ≤ k) wA w

theorem Row.grown {wA w w' : World} {g cap m : Nat} {xs ys : List UInt8} {v' : Value} (h : Row wA w g cap xs) (hg : w.grownBy w' (some g)) (ho : w'.ownsRow wA.heap.size 5 1 v' m (ub ys)) (hm : m = ys.length) (hn : v' ≠ .slice none 0 0) :
    ∃ g' cap', v' = .slice (some ⟨g', 0, none⟩) ys.length cap' ∧ Row wA w' g' cap' ys := by
  subst hm
  rcases ho.2 with ⟨e, _⟩ | ⟨g', cap', cur, e, _⟩
  · exact absurd e hn
  · subst e
    refine ⟨g', cap', rfl, ho, h.fr.trans (Fr.grown (F := fun k => wA.heap.size ≤ k) hg (fun k hk => ?_)) (fun k hk => .inl hk)⟩
    cases hk
    exact (h.own.lt g rfl).1

theorem Row.cells {wA w : World} {g cap : Nat} {xs : List UInt8} (h : Row wA w g cap xs) : ∀ i (hi : i < xs.length), w.cell? ⟨g, 0 + i, none⟩ = some (.int .u8 (xs[i].toNat : Int)) := by
  intro i hi
  rcases h.own.2 with ⟨e, _⟩ | ⟨g', cap', cur, e, _, hh, _, _, _, htake⟩
  · cases e
  · cases e
    have h1 : (ub xs)[i]? = some (.int .u8 (xs[i].toNat : Int)) := by simp [ub, hi]
    rw [← htake, List.getElem?_take] at h1
    split at h1
    · rw [Nat.zero_add]
      simp only [World.cell?, hh]
      simpa using h1
    · cases h1

theorem Row.lt {wA w : World} {g cap : Nat} {xs : List UInt8} (h : Row wA w g cap xs) : g < w.heap.size := (h.own.lt g rfl).2

theorem Row.str {wA w : World} {g cap : Nat} {xs : List UInt8} (h : Row wA w g cap xs) (wx : World) (hx : wx.heap[g]? = w.heap[g]?) : (convert 25 9 (.slice (some ⟨g, 0, none⟩) xs.length cap)).run Tryd.prog wx = .ok (.string (bs xs)) wx := by
  refine run_convert_bytes_back wx 25 9 5 ⟨g, 0, none⟩ cap xs Tryd.underlying25 Tryd.underlying5 Tryd.underlying9 (fun j hj => ?_)
  have := h.cells j hj
  have e : wx.cell? ⟨g, 0 + j, none⟩ = w.cell? ⟨g, 0 + j, none⟩ := by simp [World.cell?, hx]
  rw [add_plain, e, this]
end Go.Proofs.Qxb6603202aDoor
