import Derived.Test.Qxb6602599aDoorTwo
import Derived.OwnWalk
namespace Go.Proofs.Qxb6602599aDoor
open Go.RowKit
open Go

set_option maxHeartbeats 800000 in
theorem law4_no (p1 p2 : Option Addr) (n1 c1 n2 c2 : Nat) (w : World) (h : 1048576 < n1 ∨ 1048576 < n1 + n2) :
    Calls Tryd.prog 4 #[.slice p1 n1 c1, .slice p2 n2 c2] w fun e w' => e = .returned (.bool true) ∧ Below w.heap.size w w' := by
  have hc := bytes2_no p1 p2 n1 c1 n2 c2 w h
  clear h
  go_enter Tryd.func4, Tryd.ntmps4
  go_wp2_with fail
  refine hc.mono ?_
  rintro e w1 ⟨rfl, rfl⟩
  go_wp2
  go_ret
  exact ⟨rfl, Below.refl _ _⟩

theorem Tryd.info5' : ∃ i, Tryd.prog.info? 5 = some i ∧ i.zero = some (.int .u8 0) ∧ i.size = 1 ∧ i.bytes = 1 := info_parts Tryd.info5

theorem BIn.newsAny {w : World} {p : Option Addr} {n : Nat} {xs : List Int} (hx : xs.length = n) (h : BIn w p n xs) : ∀ ad, p = some ad → ∀ j u, (ubs xs)[j]? = some u → w.cell? (ad.add j) = some u := fun _ e => BIn.news hx (e ▸ h)

theorem BIn.ltAny {w : World} {p : Option Addr} {n : Nat} {xs : List Int} (h : BIn w p n xs) : 0 < n → ∀ a, p = some a → a.block < w.heap.size := by
  intro hn a e
  obtain ⟨b, o, e', hc⟩ := h hn
  rw [e] at e'; cases e'
  exact World.block_lt_of_cell? w _ (hc 0 hn)

theorem BIn.of_own {w : World} {g n cap : Nat} {xs : List Int} (h : w.ownsRow 0 5 1 (.slice (some ⟨g, 0, none⟩) n cap) n (ubs xs)) : BIn w (some ⟨g, 0, none⟩) n xs := by
  intro hn
  rcases own_cells (xs := xs) h with ⟨e, _⟩ | ⟨g', cap', e, hc⟩
  · cases e
  · cases e
    exact ⟨g, 0, rfl, hc⟩

set_option maxHeartbeats 3200000 in
set_option maxRecDepth 1000000 in
theorem law4_main (p1 p2 : Option Addr) (n1 c1 n2 c2 : Nat) (xa xb : List Int) (w : World) (m : Int) (henv : Env w m) (hl1 : xa.length = n1) (hl2 : xb.length = n2) (hin1 : BIn w p1 n1 xa) (hin2 : BIn w p2 n2 xb) (hB1 : IsB xa) (hB2 : IsB xb)
    (h1 : n1 ≤ 1048576) (h2 : n2 ≤ 1048576) (h12 : n1 + n2 ≤ 1048576) :
    Calls Tryd.prog 4 #[.slice p1 n1 c1, .slice p2 n2 c2] w fun e w' => e = .returned (.bool true) ∧ Below w.heap.size w w' := by
  have hc12 := bytes2_ok p1 p2 n1 c1 n2 c2 w h1 h2 h12
  have hca := clone_any p1 n1 c1 xa w hl1 h1 hin1
  have HX : Hid _ := And.intro henv (And.intro hl1 (And.intro hl2 (And.intro hin2 (And.intro hB1 hB2))))
  have h3 : 3 ≤ w.heap.size := by have := World.block_lt_of_cell? w _ (henv.2.2 0 (by omega)).1; simp at this; omega
  clear henv hl1 hl2 hin1 hin2 hB1 hB2
  obtain ⟨i5, hi, hi0, hi1, hi2⟩ := Tryd.info5'
  have z1 : ¬ ((n1 : Int) > 1048576) := by omega
  have z2 : ¬ ((n2 : Int) > 1048576) := by omega
  have z3 : ¬ ((n1 : Int) + (n2 : Int) > 1048576) := by omega
  go_enter Tryd.func4, Tryd.ntmps4
  go_wp2_with (go_at_call 12; refine hc12.mono ?_; rintro e w0 ⟨rfl, rfl⟩)
  go_at_call 6
  refine hca.mono ?_
  rintro e w1 ⟨pa, ca, rfl, ha, hf1, hca1, hca2⟩
  have HF1 : Hid (Fr (fun _ => False) w w1) := hf1
  have hcb := clone_any p2 n2 c2 xb w1 HX.out.2.2.1 h2 (HX.out.2.2.2.1.kept hf1 (fun _ _ _ e => e))
  have HA : Hid _ := And.intro ha (And.intro hca1 hca2)
  clear ha hf1 hca1 hca2 hca hc12
  go_wp2_with fail
  refine hcb.mono ?_
  rintro e w2 ⟨pb, cb, rfl, hb, hf2, hcb1, hcb2⟩
  have HF2 : Hid (Fr (fun _ => False) w w2) := HF1.out.trans hf2 (fun _ e => .inl e)
  have hb' := hb
  have ha' := HA.out.1.kept hf2 (fun _ _ _ e => e)
  have HB : Hid _ := And.intro hb (And.intro hcb1 hcb2)
  have HA2 : Hid _ := ha'
  clear hb hb' ha' hf2 hcb1 hcb2 hcb HF1
  go_wp2_with (at_make; refine wpList_make_own _ rfl (.const (.int .i64 0)) (.tmp 41) 22 rfl 0 5 i5 (.int .u8 0) 1 Tryd.underlying22 hi hi0 hi1 .i64 .i64 _ (n1 + n2) rfl rfl (by omega) (by rw [hi2]; omega) (by unfold maxLen; omega) (Nat.zero_le _) ?_)
  intro w3 hown3 hg3
  obtain ⟨g, hg⟩ : ∃ g, g = w2.heap.size := ⟨_, rfl⟩
  rw [← hg] at hown3 ⊢
  have HG : Hid (g = w2.heap.size) := hg
  have hf3 : Fr (fun _ => False) w2 w3 := Fr.grown hg3 (fun k e => by cases e)
  have HF3 : Hid (Fr (fun _ => False) w w3) := HF2.out.trans hf3 (fun _ e => .inl e)
  have hA3 : BIn w3 pa n1 xa := BIn.kept HA2.out hf3 (fun _ _ _ e => e)
  have hB3 : BIn w3 pb n2 xb := BIn.kept HB.out.1 hf3 (fun _ _ _ e => e)
  have HAB : Hid _ := And.intro (BIn.ltAny HA2.out) (BIn.ltAny HB.out.1)
  have hgw : w.heap.size ≤ g := by rw [hg]; exact HF2.out.size
  clear hg hg3 hf3 HA2 HF2
  have hnA := hA3.newsAny HX.out.2.1
  have hnB := hB3.newsAny HX.out.2.2.1
  have hna := HA.out.2.2
  have hnb := HB.out.2.2
  have hl1 := HX.out.2.1
  have hl2 := HX.out.2.2.1
  have HAB3 : Hid _ := And.intro hA3 hB3
  clear hA3 hB3
  go_wp2_with (at_builtin; refine wpList_append_fits_any _ rfl (.tmp 43) (.tmp 44) 22 rfl 0 5 i5 1 Tryd.underlying22 hi hi1 g 0 (n1 + n2) [] rfl hown3 pa n1 ca (ubs xa) rfl (by rw [ubs_len, hl1]) hna hnA (ubs_one _) (by omega) ?_)
  intro w4 hown4 hg4
  have hf4 : Fr (fun k => k = g) w3 w4 := Fr.grown hg4 (fun k e => by cases e; rfl)
  have HF4 : Hid (Fr (fun _ => False) w w4) := HF3.out.trans hf4 (fun i e => .inr (by rw [e]; exact hgw))
  have hB4 : BIn w4 pb n2 xb := BIn.kept HAB3.out.2 hf4 (fun a e hn e2 => by have := HAB.out.2 hn a e; rw [← HG.out, e2] at this; omega)
  have HA4 : Hid (BIn w4 pa n1 xa) := BIn.kept HAB3.out.1 hf4 (fun a e hn e2 => by have := HAB.out.1 hn a e; rw [← HG.out, e2] at this; omega)
  have hnB4 := hB4.newsAny hl2
  have HB4 : Hid (BIn w4 pb n2 xb) := hB4
  clear hB4 hf4 hg4 hnA hnB hown3 HF3 HAB3
  try simp only [List.nil_append, Nat.zero_add] at hown4
  go_wp2_with (at_builtin; refine wpList_append_fits_any _ rfl (.tmp 46) (.tmp 47) 22 rfl 0 5 i5 1 Tryd.underlying22 hi hi1 g n1 (n1 + n2) (ubs xa) rfl hown4 pb n2 cb (ubs xb) rfl (by rw [ubs_len, hl2]) hnb hnB4 (ubs_one _) (by omega) ?_)
  intro w5 hown5 hg5
  have hf5 : Fr (fun k => k = g) w4 w5 := Fr.grown hg5 (fun k e => by cases e; rfl)
  have HF5 : Hid (Fr (fun _ => False) w w5) := HF4.out.trans hf5 (fun i e => .inr (by rw [e]; exact hgw))
  have HB5 : Hid (BIn w5 pb n2 xb) := BIn.kept HB4.out hf5 (fun a e hn e2 => by have := HAB.out.2 hn a e; rw [← HG.out, e2] at this; omega)
  have HA5 : Hid (BIn w5 pa n1 xa) := BIn.kept HA4.out hf5 (fun a e hn e2 => by have := HAB.out.1 hn a e; rw [← HG.out, e2] at this; omega)
  rw [ubs_app] at hown5
  have HW5 : Hid (BIn w5 (some ⟨g, 0, none⟩) (n1 + n2) (xa ++ xb)) := BIn.of_own hown5
  clear hf5 hg5 hnB4 hown4 hown5 HF4 HA4 HB4 hna hnb
  go_wp2_with fail
  have hw5 : w.heap.size ≤ w5.heap.size := HF5.out.size
  have hg5 : 0 < n1 + n2 → g < w5.heap.size := fun e => BIn.lt HW5.out e
  have f6 : Fr (fun _ => False) w5 (w5.alloc (.cells (blkOf M.init 0 (.slice none 0 0) (.slice none 0 0) (.slice none 0 0)) 30)) := Fr.alloc w5 _
  refine (run_lies (lies_fresh w5) M.inv_init (by simp) (by omega) (m := m) ((HX.out.1.kept HF5.out (fun _ e => e.elim)).kept f6 (fun _ e => e.elim)) (BIn.kept HW5.out f6 (fun _ _ _ e => e)) (fun hn a e => by cases e; exact hg5 hn) (by rw [List.length_append, hl1, hl2]) (Nat.le_refl _) h12 (M.isB_app HX.out.2.2.2.2.1 HX.out.2.2.2.2.2) 0 (by omega) (by omega) (by simp)).mono ?_
  rintro e w7 ⟨v1, rfl, hr7, hf7⟩
  rw [List.nil_append] at hr7
  obtain ⟨ao1, cap1, hv1, _⟩ := own_form hr7.own
  subst hv1
  have hf57 : Fr (fun _ => False) w5 w7 := f6.trans hf7 (fun i e => .inr e)
  have HF7 : Hid (Fr (fun _ => False) w w7) := HF5.out.trans hf57 (fun _ e => .inl e)
  have HA7 : Hid (BIn w7 pa n1 xa) := BIn.kept HA5.out hf57 (fun _ _ _ e => e)
  have HB7 : Hid (BIn w7 pb n2 xb) := BIn.kept HB5.out hf57 (fun _ _ _ e => e)
  have HR7 : Hid _ := hr7
  obtain ⟨bs, hbs⟩ : ∃ bs, bs = w5.heap.size := ⟨_, rfl⟩
  rw [← hbs] at HR7
  rw [← hbs]
  have HBS : Hid (w.heap.size ≤ bs) := by rw [hbs]; exact hw5
  clear hbs hr7 hf7 hf57 f6 HF5 HA5 HB5 HW5 hg5 hw5
  have hlen1 := evs_len (xa ++ xb) M.init 0
  rw [List.length_append, hl1, hl2] at hlen1
  generalize (M.evs M.init (xa ++ xb) 0).1.length = q1 at *
  go_wp2_with fail
  have hw7 : w.heap.size ≤ w7.heap.size := HF7.out.size
  have f8 : Fr (fun _ => False) w7 (w7.alloc (.cells (blkOf M.init 0 (.slice none 0 0) (.slice none 0 0) (.slice none 0 0)) 30)) := Fr.alloc w7 _
  refine (run_lies (lies_fresh w7) M.inv_init (by simp) (by omega) (m := m) ((HX.out.1.kept HF7.out (fun _ e => e.elim)).kept f8 (fun _ e => e.elim)) (BIn.kept HA7.out f8 (fun _ _ _ e => e)) (BIn.ltAny HA7.out) hl1 HA.out.2.1 h1 HX.out.2.2.2.2.1 0 (by omega) (by omega) (by simp)).mono ?_
  rintro e w9 ⟨v2, rfl, hr9, hf9⟩
  rw [List.nil_append] at hr9
  obtain ⟨ao2, cap2, hv2, _⟩ := own_form hr9.own
  subst hv2
  have hf79 : Fr (fun k => w7.heap.size ≤ k) w7 w9 := f8.mono (fun _ e => e.elim) |>.trans hf9 (fun i e => .inl e)
  have HF79 : Hid (Fr (fun k => w7.heap.size ≤ k) w7 w9) := hf79
  have hf79' : Fr (fun _ => False) w7 w9 := f8.trans hf9 (fun i e => .inr e)
  have HB9 : Hid (BIn w9 pb n2 xb) := BIn.kept HB7.out hf79' (fun _ _ _ e => e)
  have HLB : Hid (0 < n2 → ∀ a, pb = some a → a.block < w7.heap.size) := BIn.ltAny HB7.out
  have HR9 : Hid _ := hr9
  have HF9 : Hid (Fr (fun _ => False) w w9) := HF7.out.trans hf79' (fun _ e => .inl e)
  clear hr9 hf9 hf79 hf79' f8 HB7 HA7
  have hlen2 := evs_len xa M.init 0
  rw [hl1] at hlen2
  have H2 : Hid ((M.evs M.init xa 0).1.length ≤ n1) := hlen2
  clear hlen2
  obtain ⟨q2, hq2⟩ : ∃ q2, q2 = (M.evs M.init xa 0).1.length := ⟨_, rfl⟩
  rw [← hq2]
  have HQ2 : Hid (q2 = (M.evs M.init xa 0).1.length) := hq2
  clear hq2
  go_wp2_with fail
  have hr10 := run_lies HR9.out (M.inv_evs xa 0 M.inv_init HX.out.2.2.2.2.1) (by have := HF79.out.size; omega) (by omega) (m := m) (HX.out.1.kept HF9.out (fun _ e => e.elim)) HB9.out HLB.out hl2 HB.out.2.1 h2 HX.out.2.2.2.2.2 (n1 : Int) (by omega) (by omega) (Nat.le_trans H2.out h1)
  rw [← HQ2.out] at hr10
  refine hr10.mono ?_
  rintro e w10 ⟨v3, rfl, hr10, hf10⟩
  have eqE := M.evs_append xa M.init xb 0
  rw [hl1, Int.zero_add] at eqE
  have e1 : (M.evs M.init xa 0).1 ++ (M.evs (M.evs M.init xa 0).2 xb n1).1 = (M.evs M.init (xa ++ xb) 0).1 := by rw [eqE]
  have e2 : (M.evs (M.evs M.init xa 0).2 xb n1).2 = (M.evs M.init (xa ++ xb) 0).2 := by rw [eqE]
  rw [e1, e2] at hr10
  have hf710 : Fr (fun k => w7.heap.size ≤ k) w7 w10 := HF79.out.trans hf10 (fun i e => .inl e)
  have hr7 := HR7.out.kept hf710 (Nat.le_refl _)
  have hf10' : Fr (fun _ => False) w w10 := HF7.out.trans hf710 (fun i e => .inr (Nat.le_trans hw7 e))
  obtain ⟨ao3, cap3, hv3, _⟩ := own_form hr10.own
  have hle := evs_len (xa ++ xb) M.init 0
  rw [List.length_append, hl1, hl2] at hle
  have hcs := sameInts_own hr7.own hr10.own (by omega)
  have hI := M.inv_evs (xa ++ xb) 0 M.inv_init (M.isB_app HX.out.2.2.2.2.1 HX.out.2.2.2.2.2)
  have hnb := M.nb_evs (xa ++ xb) 0 M.inv_init (M.isB_app HX.out.2.2.2.2.1 HX.out.2.2.2.2.2) (by decide)
  have HE : Hid _ := And.intro hr7 (And.intro hr10 (And.intro hI hnb))
  have HF10 : Hid (Fr (fun _ => False) w w10) := hf10'
  rw [hv3] at hcs
  rw [hv3]
  generalize (M.evs M.init (xa ++ xb) 0).1.length = q3 at hcs ⊢
  clear hv3 hr7 hr10 hI hnb hf10 hf710 hf10' eqE e1 e2 hle HR9 HR7 HF79 HF9 HB9 HLB H2 HQ2
  go_wp2_with fail
  refine hcs.mono ?_
  rintro e w11 ⟨rfl, hf11⟩
  have HF11 : Hid (Fr (fun _ => False) w w11) := HF10.out.trans hf11 (fun _ e => .inl e)
  have hst : Calls Tryd.prog 13 #[.pointer (some ⟨bs, 0, none⟩), .pointer (some ⟨w7.heap.size, 0, none⟩)] w11 fun e w' => e = .returned (.bool true) ∧ Fr (fun _ => False) w11 w' := by
    obtain ⟨z1, l1, m1, d1, s1, _⟩ := HE.out.1.str
    obtain ⟨z2, l2, m2, d2, s2, _⟩ := HE.out.2.1.str
    have q1 := HE.out.2.2.1.line
    have q2 := HE.out.2.2.1.data
    have q3 := HE.out.2.2.2
    exact sameState_any (s1.kept hf11 (fun _ _ e => e)) (s2.kept hf11 (fun _ _ e => e)) (by omega) (by omega) (by omega)
  clear hf11 HE HF10 hcs
  go_wp2_with fail
  refine hst.mono ?_
  rintro e w12 ⟨rfl, hf12⟩
  have HF12 : Hid (Fr (fun _ => False) w w12) := HF11.out.trans hf12 (fun _ e => .inl e)
  clear hf12 hst
  go_wp2
  go_ret
  exact ⟨rfl, HF12.out.below (Nat.le_refl _) (fun _ e => e.elim)⟩

theorem law4 (p1 p2 : Option Addr) (n1 c1 n2 c2 : Nat) (xa xb : List Int) (w : World) (m : Int) (henv : Env w m) (hl1 : xa.length = n1) (hl2 : xb.length = n2) (hin1 : BIn w p1 n1 xa) (hin2 : BIn w p2 n2 xb) (hB1 : IsB xa) (hB2 : IsB xb) :
    Calls Tryd.prog 4 #[.slice p1 n1 c1, .slice p2 n2 c2] w fun e w' => e = .returned (.bool true) ∧ Below w.heap.size w w' := by
  by_cases h : 1048576 < n1 ∨ 1048576 < n1 + n2
  · exact law4_no p1 p2 n1 c1 n2 c2 w h
  · exact law4_main p1 p2 n1 c1 n2 c2 xa xb w m henv hl1 hl2 hin1 hin2 hB1 hB2 (by omega) (by omega) (by omega)
end Go.Proofs.Qxb6602599aDoor
