import Derived.Test.Qxb6603202aDoorLaw
namespace Go.Proofs.Qxb6603202aDoor
open Go.RowKit
open Go

set_option maxHeartbeats 800000 in
theorem law_no (s : ByteArray) (w : World) (hs : 1048576 < s.size) : Calls Tryd.prog 3 #[.string s] w fun e w' => e = .returned (.bool true) ∧ Fr (fun k => w.heap.size ≤ k) w w' := by
  have hb := bytes_no s w hs
  go_enter Tryd.func3, Tryd.ntmps3
  go_wp2_with fail
  refine hb.mono ?_
  rintro e w1 ⟨rfl, rfl⟩
  go_wp2
  go_ret
  exact ⟨rfl, Fr.refl _ _⟩

theorem law_any (s : ByteArray) (m : Int) (w : World) (henv : Env w m) : Calls Tryd.prog 3 #[.string s] w fun e w' => e = .returned (.bool true) ∧ Fr (fun k => w.heap.size ≤ k) w w' := by
  by_cases hs : 1048576 < s.size
  · exact law_no s w hs
  · exact law_in s m w (by omega) henv
end Go.Proofs.Qxb6603202aDoor
