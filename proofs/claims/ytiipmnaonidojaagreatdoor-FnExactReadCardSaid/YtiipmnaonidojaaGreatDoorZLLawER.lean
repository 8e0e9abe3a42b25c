/- What is proved: for every list of entries and every comment, FnExactRead returns true and leaves its arguments as they read: an archive that the reference writes is read back as its comment and the headers of its files, in order. Conditions: none beyond the row's own: the arguments can be read as data, and the package variables that the row lists hold what the program's text lays (the card ties that). -/
import Derived.Test.YtiipmnaonidojaaGreatDoorZW
import Derived.Test.YtiipmnaonidojaaGreatDoorZS
import Derived.Test.YtiipmnaonidojaaGreatDoorZR
namespace Go.Proofs.Zip
open Go Go.RowKit
/-- A good archive is read. -/
theorem read_good {N0 : Nat} {E0 : Errs} {es : List E} {c : List UInt8} (w : World) (hE : Env w N0 E0) (hg : goodB es c = true) : Calls Tryz.prog 28 #[.string (B (archiveL es c))] w (IsOk c (es.map toldE) w) := by
  have hL := good_lay hg
  obtain ⟨b, k, hA, hp⟩ := arc_good hg hL (.inl rfl)
  have hc : (hsOf es 0).length = n2 (archiveL es c) ((archiveL es c).length - b + k + 10) := by
    rw [hsOf_length, hp, hL.n2 10 (by omega), hL.ebytes.f10]
  have h := readOk_any _ b k N0 _ _ (hsOf es 0) E0 w hE hA hc
  rw [told_list es (good_parts hg).1, hp, hL.comment] at h
  exact h
set_option maxRecDepth 100000 in
set_option maxHeartbeats 1000000 in
theorem exactRead_any {N0 : Nat} {E0 : Errs} (es : List E) (c : List UInt8) (v : Value) (w : World) (hE : Env w N0 E0) (hv : IsList w v es) (hlen : es.length ≤ 9223372036854775807) (hc : c.length ≤ 9223372036854775807) :
    Calls Tryz.prog 13 #[v, .string (B c)] w fun e w' => e = .returned (.bool true) ∧ Below w.heap.size w w' := by
  have HFT := Lib.hid (fits1_any es v w hv hlen)
  have HE := Lib.hid hE
  have HV := Lib.hid hv
  obtain ⟨fa, fcap, rfl, -⟩ := hv
  clear hE
  go_enter Tryz.func13, Tryz.ntmps13
  go_wp2_with fail
  refine HFT.out.mono ?_
  rintro e w1 ⟨rfl, hb1⟩
  have HB1 := Lib.hid hb1
  have HV1 := Lib.hid (HV.out.below hb1)
  clear hb1 HFT HV
  cases hft : fits1 es
  · go_wp2
    go_ret
    exact ⟨rfl, HB1.out⟩
  obtain ⟨hl1, hl2⟩ := fits1_small hft
  clear hft hl2
  by_cases hcl : c.length ≤ 2147483647
  · have hcl' : ¬ (2147483647 : Int) < c.length := by omega
    have HG := Lib.hid (good_any es c _ w1 HV1.out (by omega) (by omega))
    go_wp2_with fail
    refine HG.out.mono ?_
    rintro r w4 ⟨rfl, hb4⟩
    have HV4 := Lib.hid (HV1.out.below hb4)
    have HB4 := Lib.hid (below_up HB1.out hb4)
    clear hb4 HG HV1
    cases hgood : goodB es c
    · go_wp2
      go_ret
      exact ⟨rfl, HB4.out⟩
    have HGOOD := Lib.hid hgood
    clear hgood
    have hgl := (good_parts HGOOD.out).2.1
    have HAR := Lib.hid (archive_good HGOOD.out _ w4 HV4.out)
    go_wp2_with fail
    refine HAR.out.mono ?_
    rintro r w5 ⟨rfl, hb5⟩
    have HB5 := Lib.hid (below_up HB4.out hb5)
    have HV5 := Lib.hid (HV4.out.below hb5)
    have HRD := Lib.hid (read_good (N0 := N0) (E0 := E0) w5 (HE.out.below HB5.out) HGOOD.out)
    clear hb5 HAR HV4
    go_wp2_with fail
    refine HRD.out.mono ?_
    rintro r w6 ⟨u, rfl, hO6, hb6⟩
    have HB6 := Lib.hid (below_up HB5.out hb6.out)
    have HLS := Lib.hid (listed_any es _ w6 (HV5.out.below hb6.out) (by omega) (fun x hx => HOk.of (by
      have := List.all_eq_true.1 (good_parts HGOOD.out).1 x hx
      simp only [entryOk, Bool.and_eq_true] at this
      exact this.1)))
    clear HRD hb6
    go_wp2_with fail
    refine HLS.out.mono ?_
    rintro r w7 ⟨u2, rfl, hO7, hb7⟩
    have HB7 := Lib.hid (below_up HB6.out hb7)
    have HSA := Lib.hid (same_any (es.map toldE) c u u2 w7 ((isHdrs_own hO6.out).below hb7) (isHdrs_own (by rw [List.length_map]; exact hO7)) (by rw [List.length_map]; omega))
    clear HLS hO6 hO7 hb7
    go_wp2_with (first
      | (go_at_call 27; refine HSA.out.mono ?_; rintro r w8 ⟨rfl, hb8⟩)
      | (go_at_call 23; refine (reads_any (E0 := E0) (N0 := N0) _ (HE.out.below (below_up HB7.out hb8))).mono ?_; rintro r w9 ⟨rfl, hb9⟩))
    all_goals (
      go_ret
      exact ⟨rfl, below_up (below_up HB7.out hb8) hb9⟩)
  · have hcl' : (2147483647 : Int) < c.length := by omega
    go_wp2
    go_ret
    exact ⟨rfl, HB1.out⟩
end Go.Proofs.Zip
namespace Go.Proofs.YtiipmnaonidojaaGreatDoor
open Go Go.ChangeShapes Go.WideShapes Go.ChangeAt Go.RowKit Go.Proofs.Zip Go.Deep
namespace fnExactRead
abbrev fid : Nat := 13
theorem laid_same : Rows.fnExactReadRow.laid = laidL := rfl
set_option maxRecDepth 100000 in
/-- What the walk gives, for every input that can be read. -/
theorem contract (H : Type) (enc : TypeId × Value → H) (W : World) (base : Nat) (args : Array Value) (ds gs : List (DataW H)) (before : List MemPlace)
    (hval : ∀ (j : Nat) t v, Tryz.f13.params[j]? = some t → args[j]? = some v → Value.okWide Tryz.prog W .any base t v)
    (hW : DataW.Whole enc Tryz.prog Tryz.f13.params.toList Rows.fnExactReadSpec.vars false W args.toList ds gs before) (hL : laidMetH Tryz.prog Rows.fnExactReadRow.laid W) :
    Calls Tryz.prog 13 args W fun e W' => ∃ v, e = .returned v ∧ Rows.fnExactReadSpec.post enc Tryz.prog Tryz.f13 false true false false W args v W' := by
  have hW' := hW
  obtain ⟨p, q, hA0, hV, rfl, _, _⟩ := hW
  have hA : DataW.TrodAll enc Tryz.prog W 0 (fun _ => true) true Tryz.f13.params.toList args.toList ds p := hA0
  rw [Tryz.params13] at hA hval
  obtain ⟨v0, vs0, d0, ds0, p0, q0, hargs, rfl, rfl, h0, r0⟩ := trodAll_cons hA
  obtain ⟨v1, vs1, d1, ds1, p1, q1, rfl, rfl, rfl, h1, r1⟩ := trodAll_cons r0
  obtain ⟨rfl, rfl, rfl⟩ := trodAll_nil r1
  obtain rfl : args = #[v0, v1] := by cases args; simp_all
  obtain ⟨E0, hE⟩ : ∃ E0, Env W W.heap.size E0 := by
    rw [laid_same] at hL
    rw [MakeChecks.laidMetH_plain _ _ _ (by kernel_rfl)] at hL
    exact env_of hL
  have hk0 := h0
  have hk1 := h1
  obtain ⟨es0, hes0, hel0⟩ := rd_list h0 (okWide_slice Tryz.underlying22 (hval 0 22 v0 rfl rfl))
  obtain ⟨c1, rfl, hc1⟩ : ∃ l : List UInt8, v1 = .string (B l) ∧ l.length ≤ 9223372036854775807 := rd_text h1 (hval 1 9 v1 rfl rfl)
  have hlt : ∀ x ∈ ((p0 ++ (p1 ++ []))) ++ q, x.block < W.heap.size := fun x hx => by simpa using hW'.lt x (by simpa using hx)
  refine (exactRead_any es0 c1 v0 W hE hes0 hel0 hc1).mono fun e W' ⟨he, hb⟩ => ?_
  subst he
  have hV' := Below.trodVars laidOut hb varsOk hV
  obtain ⟨g1, g2, g3, g4, rfl⟩ := four_of_vars hV
  refine ⟨_, rfl, _, _, _, [], p0 ++ (p1 ++ ([])), q, hW', trodAll_cons_mk (shut_bool Tryz.underlying4 true) trodAll_mk0, ?_, hV', hb.frame _, fun h => by cases h⟩
  exact trodAll_cons_mk (Below.trod laidOut (by kernel_rfl) (of_decide_eq_true (by kernel_rfl)) hk0 hb (fun x hx => hlt x (by simp [hx]))) (trodAll_cons_mk (Below.trod laidOut (by kernel_rfl) (of_decide_eq_true (by kernel_rfl)) hk1 hb (fun x hx => hlt x (by simp [hx]))) (trodAll_mk0))
set_option maxRecDepth 100000 in
theorem lifted (os : Os) (started : os.Started) (H : Type) (enc : TypeId × Value → H) :
    ReturnsInHanded {} Tryz.checked os 13 .any (fun w args => (Rows.fnExactReadSpec.pre enc Tryz.prog Tryz.f13 Rows.fnExactReadRow.domain false w args ∧ laidMetH Tryz.prog Rows.fnExactReadRow.laid w) ∧ sizedMet enc Tryz.prog Tryz.f13 (OpenSpec.ofChange Rows.fnExactReadSpec) false w args)
      (Rows.fnExactReadSpec.post enc Tryz.prog Tryz.f13 false true false false) := by
  refine returnsInHanded_of_change_and (C := Tryz.checked) (X := fun w _ => laidMetH Tryz.prog Rows.fnExactReadRow.laid w) (fun _ _ _ hh h => h.of_heap hh) own started (by kernel_rfl) Tryz.func13
    (ChangeSpec.witness_shaped (enc := enc) (C := Tryz.checked) (os := os) (X := fun w _ => laidMetH Tryz.prog Rows.fnExactReadRow.laid w) false (World.laidAll Tryz.prog os Rows.fnExactReadRow.laid) #[.slice none 0 0, .string ByteArray.empty] 8 (World.laidAll_os _ _ _)
      (World.shaped_of_ZipB (by kernel_rfl) (by kernel_rfl)) (by kernel_rfl) (by kernel_rfl) (by kernel_rfl)
      (by rw [MakeChecks.laidMetH_plain _ _ _ (by kernel_rfl)]; exact laidMet_laidAll _ (by kernel_rfl) (by kernel_rfl))) ?_
  intro W base args ds gs before hval hW _ _ hL _
  exact contract H enc W base args ds gs before hval hW hL
set_option maxRecDepth 100000 in
set_option maxHeartbeats 8000000 in
theorem closed : joinedFacts Tryz.pinned.checked.prog 13 Tryz.f13 Rows.fnExactReadSpec Rows.fnExactReadRow = true := by
  unfold joinedFacts
  rw [show Tryz.pinned.checked.prog = Tryz.prog from rfl, head_enter, head_final, head_make]
  repeat' (with_reducible refine Bool.and_eq_true_iff.2 ⟨?_, ?_⟩)
  all_goals as_aux_lemma => kernel_rfl
theorem wrapped : Tryz.f13.isWrapper Tryz.pinned.checked.prog Rows.fnExactReadRow.wrapper Rows.fnExactReadRow.mainSum := by unfold Func.isWrapper; first | (rw [if_pos (by decide +kernel)]; kernel_rfl) | (rw [if_neg (by decide +kernel)]; exact ⟨rfl, rfl⟩)
set_option maxRecDepth 100000 in
theorem said : Rows.FnExactReadSaid :=
  OpenClaim.holds_of_wide 13 Tryz.f13 rfl rfl rfl rfl rfl rfl rfl ⟨rfl, rfl, rfl, rfl, rfl⟩ rfl rfl rfl rfl rfl (by kernel_rfl) Tryz.func13 closed
    (of_decide_eq_true (by kernel_rfl)) wrapped
    (fun os started H enc _ => lifted os started H enc)
/-- No parameter wants a stand-in. -/
theorem plain (f : FuncId) (fn : Func) (hf : Tryz.pinned.checked.prog.funcNamed "loop.example/pub-ziparchives/laws.FnExactRead" = some f) (hfn : Tryz.pinned.checked.prog.funcs[f]? = some fn) :
    true = Tryz.pinned.checked.prog.looks [] ∧ ∀ (j : Nat) t, fn.params[j]? = some t → Tryz.pinned.checked.prog.wantsStandIn t = false := by
  obtain rfl : f = 13 := Option.some.inj ((show Tryz.prog.funcNamed "loop.example/pub-ziparchives/laws.FnExactRead" = some 13 by kernel_rfl).symm.trans hf) |>.symm
  obtain rfl : fn = Tryz.f13 := (Option.some.inj (Tryz.func13.symm.trans hfn)).symm
  refine ⟨by kernel_rfl, fun j t ht => ?_⟩
  rw [Tryz.params13] at ht
  have hm : t ∈ [22, 9] := by simpa using Array.mem_of_getElem? ht
  have hall : ([22, 9].all fun u => !Tryz.prog.wantsStandIn u) = true := by kernel_rfl
  exact (show Tryz.prog.wantsStandIn t = false by simpa using List.all_eq_true.1 hall t hm)
set_option maxRecDepth 100000 in
/-- THE CARD. -/
theorem card : Rows.FnExactReadCardSaid :=
  Claim7.holds_tied_plain_at .later [] _ _ _ _ said (fun _ h => by cases h) (by kernel_rfl) (fun _ h => by cases h) fnExactRead_row_tie rfl ⟨rfl, rfl⟩ head_main rfl plain (by kernel_rfl)
end fnExactRead
end Go.Proofs.YtiipmnaonidojaaGreatDoor
