import Derived.Test.Qxb6603125aDoorDnsm
import Derived.Test.Qxb6603125aDoorShelf
import Derived.Lib.ConvBytes
namespace Go.Proofs.Qxb6603125aDoor
open Go.RowKit
open Go

def bs (l : List UInt8) : ByteArray := ⟨l.toArray⟩
theorem bs_toList (l : List UInt8) : (bs l).toList = l := by rw [Lib.toList_data]; rfl
theorem eq_list (s : ByteArray) (l : List UInt8) : (s.toList == l) = (s.data.toList == l) := by rw [Lib.toList_data]

def digs : ByteArray := ⟨#[48, 49, 50, 51, 52, 53, 54, 55, 56, 57]⟩
theorem digs_ascii : ∀ (j : Nat) b, digs.data.toList[j]? = some b → b.toNat < 128 :=
  fun _ b hb => of_decide_eq_true (List.all_eq_true.1 (by decide : [48, 49, 50, 51, 52, 53, 54, 55, 56, 57].all (fun b : UInt8 => decide (b.toNat < 128)) = true) b (List.mem_of_getElem? hb))

set_option maxHeartbeats 800000 in
theorem number_any (s : ByteArray) (w : World) : Calls Tryd.prog 30 #[.string s] w fun e w' => e = .returned (.bool (s.data.toList.all isD)) ∧ Fr (fun _ => False) w w' := by
  have h := Tryd.strings_TrimLeft_laid s digs w (by decide) digs_ascii
  have ht := trim_empty s.data.toList
  obtain ⟨X, hX⟩ : ∃ X, X = bs (Lib.trimLeftS s.data.toList digs.data.toList) := ⟨_, rfl⟩
  change Calls Tryd.prog 38 _ w (fun e w' => e = .returned (.string (bs (Lib.trimLeftS s.data.toList digs.data.toList))) ∧ _) at h
  rw [← hX] at h
  obtain ⟨T, hT⟩ : ∃ T, T = s.data.toList.all isD := ⟨_, rfl⟩
  rw [← hT] at ht ⊢
  have e : (X.toList == []) = T := by
    rw [hX, bs_toList, Bool.eq_iff_iff, ← ht, beq_iff_eq]; rfl
  clear hX ht hT
  unfold digs at h
  cases T
  · go_enter Tryd.func30, Tryd.ntmps30
    go_wp2_with fail
    refine h.mono ?_
    rintro e w1 ⟨rfl, hb⟩
    have HB : Hid _ := hb
    clear hb
    go_wp2
    go_ret
    exact ⟨rfl, Fr.of_below HB.out⟩
  · go_enter Tryd.func30, Tryd.ntmps30
    go_wp2_with fail
    refine h.mono ?_
    rintro e w1 ⟨rfl, hb⟩
    have HB : Hid _ := hb
    clear hb
    go_wp2
    go_ret
    exact ⟨rfl, Fr.of_below HB.out⟩
end Go.Proofs.Qxb6603125aDoor
