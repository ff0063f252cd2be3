import Derived.Test.Qxb6602599aDoorLaw4
import Derived.Test.Qxb6602599aDoorFrame
namespace Go.Proofs.Qxb6602599aDoor
open Go.RowKit Go.Shelf Go.Lib
open Go.ChangeShapes Go.WideShapes Go.ChangeAt
open Go

set_option maxRecDepth 100000 in
theorem lifted4 (os : Os) (started : os.Started) (H : Type) (enc : TypeId × Value → H) :
    ReturnsInHanded {} Tryd.checked os 4 .any (fun w args => (Rows.fnTakeInTwoPiecesAgreesWithWholeSpec.pre enc Tryd.prog Tryd.f4 [] false w args ∧ laidMetH Tryd.prog laidRow w) ∧ sizedMet enc Tryd.prog Tryd.f4 (OpenSpec.ofChange Rows.fnTakeInTwoPiecesAgreesWithWholeSpec) false w args)
      (Rows.fnTakeInTwoPiecesAgreesWithWholeSpec.post enc Tryd.prog Tryd.f4 false true false false) := by
  refine returns_shaped_and (C := Tryd.checked) (X := fun w _ => laidMetH Tryd.prog laidRow w) (fun _ _ _ hh h => h.of_heap hh) Tryd.own started (by kernel_rfl) Tryd.func4
    (ChangeSpec.witness_shaped (enc := enc) (C := Tryd.checked) (os := os) (X := fun w _ => laidMetH Tryd.prog laidRow w) false (World.laidAll Tryd.prog os laidRow) #[.slice none 0 0, .slice none 0 0] 8 (World.laidAll_os _ _ _)
      (World.shaped_of_ZipB (by kernel_rfl) (by kernel_rfl)) (by kernel_rfl) (by kernel_rfl) (by kernel_rfl)
      (by rw [MakeChecks.laidMetH_plain _ _ _ (by kernel_rfl)]; exact laidMet_laidAll _ (by kernel_rfl) (by kernel_rfl))) ?_
  intro W base args ds gs before hval0 hW hL hsh
  have hval : ∀ (j : Nat) t v, Tryd.f4.params[j]? = some t → args[j]? = some v → Value.okWide Tryd.prog W .any base t v := hval0
  have hW' := hW
  obtain ⟨p, q, hA0, hV, rfl, _, _⟩ := hW
  have hA : DataW.TrodAll enc Tryd.prog W 0 (fun _ => true) true Tryd.f4.params.toList args.toList ds p := hA0
  rw [Tryd.params4] at hA hval
  obtain ⟨v0, v1, d0, d1, p0, p1, rfl, rfl, rfl, h0, h1⟩ := trodAll_two hA
  obtain ⟨rfl, rfl⟩ := trodVars_none hV
  obtain ⟨a0, len0, cap0, rfl⟩ := okWide_slice Tryd.underlying22 (hval 0 22 v0 rfl rfl)
  obtain ⟨a1, len1, cap1, rfl⟩ := okWide_slice Tryd.underlying22 (hval 1 22 v1 rfl rfl)
  clear hA0 hval0
  simp only [List.append_nil] at hW'
  have hlt : ∀ x ∈ p0 ++ p1, x.block < W.heap.size := fun x hx => by simpa using hW'.lt x hx
  obtain ⟨xs, hx, _, hB0, _, hb0, _⟩ := opened_bytes Tryd.underlying22 Tryd.underlying5 Tryd.cells5 h0
  obtain ⟨ys, hy, _, hB1, _, hb1, _⟩ := opened_bytes Tryd.underlying22 Tryd.underlying5 Tryd.cells5 h1
  obtain ⟨m, henv⟩ := env_of hL hsh
  refine (law4 a0 a1 len0 cap0 len1 cap1 xs ys W m henv hx hy (bin_of hB0) (bin_of hB1) hb0 hb1).mono fun e W' ⟨he, hb⟩ => ?_
  subst he
  have harg0 := Below.trod Tryd.laidOut (by kernel_rfl) (of_decide_eq_true (by kernel_rfl)) h0 hb (fun x hx => hlt x (List.mem_append.2 (.inl hx)))
  have harg1 := Below.trod Tryd.laidOut (by kernel_rfl) (of_decide_eq_true (by kernel_rfl)) h1 hb (fun x hx => hlt x (List.mem_append.2 (.inr hx)))
  exact ⟨_, rfl, _, _, _, [], p0 ++ p1, [], hW', trodAll_mk1 (shut_bool Tryd.underlying4 _), trodAll_mk2 harg0 harg1, rfl, hb.frame _, fun h => by cases h⟩

theorem holds4 : Rows.FnTakeInTwoPiecesAgreesWithWholeSaid :=
  OpenClaim.holds_of_wide 4 Tryd.f4 rfl rfl rfl rfl rfl rfl rfl ⟨rfl, rfl, rfl, rfl, rfl⟩ rfl rfl rfl rfl rfl (by kernel_rfl) Tryd.func4 (by kernel_rfl)
    (of_decide_eq_true (by kernel_rfl)) (by unfold Func.isWrapper; first | (rw [if_pos (by decide +kernel)]; kernel_rfl) | (rw [if_neg (by decide +kernel)]; exact ⟨rfl, rfl⟩))
    (fun os started H enc _ => lifted4 os started H enc)

theorem card4 : Rows.FnTakeInTwoPiecesAgreesWithWholeCardSaid :=
  Claim7.holds_tied_plain_at .later [] [.data, .pinned] true (true, "7312b09c2556c66e188e29a0c377a522cc26342d7ab2d111638c484642c9c124") false holds4 (fun _ h => by cases h) (by kernel_rfl) (fun _ h => by cases h) fnTakeInTwoPiecesAgreesWithWhole_row_tie rfl ⟨rfl, rfl⟩ (by kernel_rfl) rfl
    (fun f fn hf hfn => by
      obtain rfl : f = 4 := Option.some.inj ((show Tryd.prog.funcNamed Rows.fnTakeInTwoPiecesAgreesWithWholeRow.func = some 4 by kernel_rfl).symm.trans hf) |>.symm
      obtain rfl : fn = Tryd.f4 := (Option.some.inj (Tryd.func4.symm.trans hfn)).symm
      exact ⟨by kernel_rfl, fun j t ht => by
        rw [Tryd.params4] at ht
        have hm : t ∈ [22, 22] := by simpa using Array.mem_of_getElem? ht
        have hall : ([22, 22].all fun u => !Tryd.prog.wantsStandIn u) = true := by kernel_rfl
        exact (show Tryd.prog.wantsStandIn t = false by simpa using List.all_eq_true.1 hall t hm)⟩)
    (by kernel_rfl)
end Go.Proofs.Qxb6602599aDoor
