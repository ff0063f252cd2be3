import Derived.Test.Qxb6603125aDoorMailm
import Derived.Test.Qxb6603125aDoorMailn
namespace Go.Proofs.Qxb6603125aDoor
open Go.RowKit
open Go

set_option maxHeartbeats 800000 in
theorem zzMail_any (s : ByteArray) (m : Int) (w : World) (hs : s.size ≤ 1048576) (hm : w.cell? ⟨0, 0, none⟩ = some (.int .i64 m)) :
    Calls Tryd.prog 17 #[.string s] w fun e w' => e = .returned (.bool (mail s.data.toList)) ∧ Fr (fun _ => False) w w' := by
  have h := mailbox_any s m w hs hm
  obtain ⟨D, hD⟩ : ∃ D, D = mail s.data.toList := ⟨_, rfl⟩
  rw [← hD] at h ⊢
  clear hD hm
  go_enter Tryd.func17, Tryd.ntmps17
  go_wp2_with fail
  refine h.mono ?_
  rintro e w1 ⟨rfl, hf⟩
  have HF : Hid _ := hf
  clear hf
  go_wp2
  go_ret
  exact ⟨rfl, HF.out⟩

set_option maxHeartbeats 800000 in
theorem lawm_any (s : ByteArray) (m : Int) (w : World) (hm : w.cell? ⟨0, 0, none⟩ = some (.int .i64 m)) :
    Calls Tryd.prog 6 #[.string s] w fun e w' => e = .returned (.bool true) ∧ Fr (fun _ => False) w w' := by
  by_cases hs : 1048576 < s.size
  · have hb := bytes16_no s w hs
    clear hm
    go_enter Tryd.func6, Tryd.ntmps6
    go_wp2_with fail
    refine hb.mono ?_
    rintro e w1 ⟨rfl, rfl⟩
    go_wp2
    go_ret
    exact ⟨rfl, Fr.refl _ _⟩
  · have hb := bytes16_ok s w (by omega)
    by_cases h16 : 65536 < s.size
    · have z : (s.size : Int) > 65536 := by omega
      clear hm
      go_enter Tryd.func6, Tryd.ntmps6
      go_wp2_with fail
      refine hb.mono ?_
      rintro e w1 ⟨rfl, rfl⟩
      go_wp2
      go_ret
      exact ⟨rfl, Fr.refl _ _⟩
    · have z : ¬ (s.size : Int) > 65536 := by omega
      have h1 := zzMail_any s m w (by omega) hm
      have h2 := fun wx => mailModel_any s wx (by omega)
      obtain ⟨D, hD⟩ : ∃ D, D = mail s.data.toList := ⟨_, rfl⟩
      rw [← hD] at h1 h2
      clear hD hm
      go_enter Tryd.func6, Tryd.ntmps6
      go_wp2_with fail
      refine hb.mono ?_
      rintro e w1 ⟨rfl, rfl⟩
      go_wp2_with fail
      refine h1.mono ?_
      rintro e w2 ⟨rfl, hf⟩
      have HF : Hid _ := hf
      clear hf
      go_wp2_with fail
      refine (h2 _).mono ?_
      rintro e w3 ⟨rfl, rfl⟩
      cases D
      · go_wp2
        go_ret
        exact ⟨rfl, HF.out⟩
      · go_wp2
        go_ret
        exact ⟨rfl, HF.out⟩
end Go.Proofs.Qxb6603125aDoor
