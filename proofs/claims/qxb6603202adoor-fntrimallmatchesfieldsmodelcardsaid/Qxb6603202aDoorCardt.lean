import Derived.Test.Qxb6603202aDoorTie
import Derived.Test.Qxb6603202aDoorCards
import Derived.Test.Qxb6603202aDoorLawt
import Derived.ProofKit
import Derived.Lib.LaidU8T
import Derived.PinnedBridge
import Derived.Lay
import Derived.LaidOnce
import Derived.SevenTiedAt
import Derived.Shelf.Vars
import Derived.Handed
namespace Go.Proofs.Qxb6603202aDoor
open Go.RowKit Go.Shelf Go.Lib
open Go.ChangeShapes Go.WideShapes Go.ChangeAt
open Go.ChangeMaps (open_string shut_string)
open Go

theorem returns_shaped_and {H : Type} {enc : TypeId × Value → H} {a : Assume} {C : Checked} {os : Os} {f : FuncId} {fn : Func} {s : ChangeSpec} {conds : List PathCond} {apart fresh handsOn again : Bool} {X : World → Array Value → Prop}
    (hX : ∀ (w w' : World) (args : Array Value), w.heap = w'.heap → X w args → X w' args)
    (own : ownKnob C.prog.godebug = none) (started : os.Started) (noInit : C.prog.inits.idxOf? f = none) (hfn : C.prog.funcs[f]? = some fn)
    (witness : ∃ (w : World) (tape : Tape) (i : Input), w.os = os ∧ (w.forCall tape i).Shaped C.prog ∧ i.vars = [] ∧ Input.okWide C.prog (w.forCall tape i) .any w.heap.size f i ∧
      ((s.pre enc C.prog fn conds apart (w.forCall tape i).memory i.args ∧ X (w.forCall tape i).memory i.args) ∧ sizedMet enc C.prog fn (OpenSpec.ofChange s) apart (w.forCall tape i).memory i.args) ∧ a.holds C.prog (lone (Frame.enter C.prog f i.args .normal) [] (w.forCall tape i)))
    (contract : ∀ (W : World) (base : Nat) (args : Array Value) (ds gs : List (DataW H)) (before : List MemPlace),
      (∀ (j : Nat) t v, fn.params[j]? = some t → args[j]? = some v → Value.okWide C.prog W .any base t v) →
      DataW.Whole enc C.prog fn.params.toList s.vars apart W args.toList ds gs before →
      X W args → W.ShapedOpen C.prog →
      Calls C.prog f args W fun e W' => ∃ v, e = .returned v ∧ s.post enc C.prog fn apart fresh handsOn again W args v W') :
    ReturnsInHanded a C os f .any (fun w args => (s.pre enc C.prog fn conds apart w args ∧ X w args) ∧ sizedMet enc C.prog fn (OpenSpec.ofChange s) apart w args) (s.post enc C.prog fn apart fresh handsOn again) := by
  refine returnsInHanded_of_calls own started noInit witness ?_
  intro w tape i _ hsh _ hok hpre _
  obtain ⟨_, _, _, fn', hfn', _, _, _, _, hval⟩ := hok
  have e : fn' = fn := Option.some.inj (hfn'.symm.trans hfn)
  subst e
  obtain ⟨⟨⟨ds, gs, before, hw, _⟩, hx⟩, _⟩ := hpre
  have hw' := DataW.Whole.of_heap (w' := w.forCall tape i) (by rfl) hw
  refine (contract (w.forCall tape i) w.heap.size i.args ds gs before hval hw' (hX _ _ _ (by rfl) hx) hsh).mono fun e W' ⟨v, he, hp⟩ => ?_
  subst he
  exact ChangeSpec.post_blind hp

theorem Tryd.own : ownKnob Tryd.prog.godebug = none := by kernel_rfl

def laidRow : List (String × DataW Unit) := [("unicode/utf8.acceptRanges", Rows.laid_unicode_utf8_acceptRanges), ("unicode.White_Space", Rows.laid_unicode_White_Space), ("strings.asciiSpace", Rows.laid_strings_asciiSpace), ("unicode/utf8.first", Rows.laid_unicode_utf8_first)]

theorem Tryd.lays199w : Lays.n199 Tryd.prog Tryd.lays163_ren := { Tryd.lays163 with }
theorem u8types : U8Types Tryd.prog Tryd.lays163_ren := { Tryd.lays163 with }
theorem u8extra : U8Extra Tryd.prog Tryd.lays163_ren := ⟨by kernel_rfl, by kernel_rfl, by kernel_rfl, by kernel_rfl, by kernel_rfl, by kernel_rfl, by kernel_rfl⟩
theorem whiteExtra : WhiteExtra Tryd.prog Tryd.lays163_ren := ⟨by kernel_rfl, by kernel_rfl, by kernel_rfl, by kernel_rfl, by kernel_rfl, by kernel_rfl, by kernel_rfl, by kernel_rfl⟩
theorem accept_eq : (Rows.laid_unicode_utf8_acceptRanges : DataW Unit) = acceptData := by kernel_rfl
theorem white_eq : (Rows.laid_unicode_White_Space : DataW Unit) = whiteData := by kernel_rfl
theorem ascii_eq : (Rows.laid_strings_asciiSpace : DataW Unit) = tabData .u8 asciiSpaceTab := by kernel_rfl

theorem tab_of_reads {w : World} (h : VarReads Tryd.prog w "strings.asciiSpace" (tabData .u8 asciiSpaceTab)) : TabIs Tryd.prog w "strings.asciiSpace" .u8 asciiSpaceTab := by
  obtain ⟨g, t, cs, fuel, p, hg, hty, hvar, hd⟩ := h
  obtain rfl := Option.some.inj ((show Tryd.prog.globalNamed "strings.asciiSpace" = some 0 by kernel_rfl).symm.trans hg)
  obtain rfl := Option.some.inj ((show (Tryd.prog.globals[0]?).map (·.type) = some 39 by kernel_rfl).symm.trans hty)
  unfold TabIs
  rw [hvar, ← cells_of_tab Tryd.underlying39 Tryd.underlying5 (by kernel_rfl) (by kernel_rfl) hd]

theorem env_of {W : World} (hL : laidMetH Tryd.prog laidRow W) (hsh : W.ShapedOpen Tryd.prog) : ∃ m, Env W m := by
  obtain ⟨m, hm⟩ := cell_of_shapedOpen_int (P := Tryd.prog) (g := 2) (t := 3) (zero := #[.int .i64 0]) hsh (of_decide_eq_true (by kernel_rfl)) (by kernel_rfl) rfl (by kernel_rfl) (by kernel_rfl) Tryd.underlying3
  rw [MakeChecks.laidMetH_plain _ _ _ (by kernel_rfl)] at hL
  exact ⟨m, tab_of_reads (ascii_eq ▸ Lib.laidMet.reads hL (.tail _ (.tail _ (.head _)))),
    utf8Tabs_of_readsT u8types u8extra (Pinned.utf8First_eq ▸ Lib.laidMet.reads hL (.tail _ (.tail _ (.tail _ (.head _))))) (accept_eq ▸ Lib.laidMet.reads hL (.head _)),
    whiteTab_of_reads Tryd.lays199w whiteExtra (white_eq ▸ Lib.laidMet.reads hL (.tail _ (.head _))), hm⟩

set_option maxRecDepth 100000 in
theorem lifted (os : Os) (started : os.Started) (H : Type) (enc : TypeId × Value → H) :
    ReturnsInHanded {} Tryd.checked os 3 .any (fun w args => (Rows.fnTrimAllMatchesFieldsModelSpec.pre enc Tryd.prog Tryd.f3 [] false w args ∧ laidMetH Tryd.prog laidRow w) ∧ sizedMet enc Tryd.prog Tryd.f3 (OpenSpec.ofChange Rows.fnTrimAllMatchesFieldsModelSpec) false w args)
      (Rows.fnTrimAllMatchesFieldsModelSpec.post enc Tryd.prog Tryd.f3 false true false false) := by
  refine returns_shaped_and (C := Tryd.checked) (X := fun w _ => laidMetH Tryd.prog laidRow w) (fun _ _ _ hh h => h.of_heap hh) Tryd.own started (by kernel_rfl) Tryd.func3
    (ChangeSpec.witness_shaped (enc := enc) (C := Tryd.checked) (os := os) (X := fun w _ => laidMetH Tryd.prog laidRow w) false (World.laidAll Tryd.prog os laidRow) #[.string ⟨#[]⟩] 8 (World.laidAll_os _ _ _)
      (World.shaped_of_ZipB (by kernel_rfl) (by kernel_rfl)) (by kernel_rfl) (by kernel_rfl) (by kernel_rfl)
      (by rw [MakeChecks.laidMetH_plain _ _ _ (by kernel_rfl)]; exact laidMet_laidAll _ (by kernel_rfl) (by kernel_rfl))) ?_
  intro W base args ds gs before hval0 hW hL hsh
  have hval : ∀ (j : Nat) t v, Tryd.f3.params[j]? = some t → args[j]? = some v → Value.okWide Tryd.prog W .any base t v := hval0
  have hW' := hW
  obtain ⟨p, q, hA0, hV, rfl, _, _⟩ := hW
  have hA : DataW.TrodAll enc Tryd.prog W 0 (fun _ => true) true Tryd.f3.params.toList args.toList ds p := hA0
  rw [Tryd.params3] at hA hval
  obtain ⟨v0, d0, rfl, rfl, h0⟩ := trodAll_one hA
  obtain ⟨rfl, rfl⟩ := trodVars_none hV
  obtain ⟨s, rfl, rfl, rfl, hsz⟩ := open_string Tryd.underlying9 (hval 0 9 v0 rfl rfl) h0
  clear hA0 hval0
  simp only [List.append_nil] at hW'
  obtain ⟨m, henv⟩ := env_of hL hsh
  refine (law_any s m W henv).mono fun e W' ⟨he, hf⟩ => ?_
  subst he
  have hb : Below W.heap.size W W' := hf.below (Nat.le_refl _) (fun _ e => e)
  exact ⟨_, rfl, _, _, _, [], [], [], hW', trodAll_mk1 (shut_bool Tryd.underlying4 _), trodAll_mk1 (shut_string Tryd.underlying9 hsz), rfl, hb.frame _, fun h => by cases h⟩

theorem holds : Rows.FnTrimAllMatchesFieldsModelSaid :=
  OpenClaim.holds_of_wide 3 Tryd.f3 rfl rfl rfl rfl rfl rfl rfl ⟨rfl, rfl, rfl, rfl, rfl⟩ rfl rfl rfl rfl rfl (by kernel_rfl) Tryd.func3 (by kernel_rfl)
    (of_decide_eq_true (by kernel_rfl)) (by unfold Func.isWrapper; first | (rw [if_pos (by decide +kernel)]; kernel_rfl) | (rw [if_neg (by decide +kernel)]; exact ⟨rfl, rfl⟩))
    (fun os started H enc _ => lifted os started H enc)

theorem card : Rows.FnTrimAllMatchesFieldsModelCardSaid :=
  Claim7.holds_tied_plain_at .later [] [.data, .listed, .data, .pinned] true (true, "a75f54f1dcf102c842bdc761c36a7f4332da3ac26e04abec0082918580388dee") false holds (fun _ h => by cases h) (by kernel_rfl) (fun _ h => by cases h) fnTrimAllMatchesFieldsModel_row_tie rfl ⟨rfl, rfl⟩ (by kernel_rfl) rfl
    (fun f fn hf hfn => by
      obtain rfl : f = 3 := Option.some.inj ((show Tryd.prog.funcNamed Rows.fnTrimAllMatchesFieldsModelRow.func = some 3 by kernel_rfl).symm.trans hf) |>.symm
      obtain rfl : fn = Tryd.f3 := (Option.some.inj (Tryd.func3.symm.trans hfn)).symm
      exact ⟨by kernel_rfl, fun j t ht => by
        rw [Tryd.params3] at ht
        have hm : t ∈ [9] := by simpa using Array.mem_of_getElem? ht
        have hall : ([9].all fun u => !Tryd.prog.wantsStandIn u) = true := by kernel_rfl
        exact (show Tryd.prog.wantsStandIn t = false by simpa using List.all_eq_true.1 hall t hm)⟩)
    (by kernel_rfl)
end Go.Proofs.Qxb6603202aDoor
