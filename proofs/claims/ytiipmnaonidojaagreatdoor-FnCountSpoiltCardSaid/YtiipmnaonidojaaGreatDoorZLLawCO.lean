/- What is proved: for every list of entries, every comment and every number, FnCountSpoilt returns true and leaves its arguments as they read: an archive whose end tells another number of files than stand in its directory is not read. Conditions: none beyond the row's own: the arguments can be read as data, and the package variables that the row lists hold what the program's text lays (the card ties that). -/
import Derived.Test.YtiipmnaonidojaaGreatDoorZT
import Derived.Test.YtiipmnaonidojaaGreatDoorZQ
import Derived.Test.YtiipmnaonidojaaGreatDoorZB
import Derived.Test.YtiipmnaonidojaaGreatDoorZR
namespace Go.Proofs.Zip
open Go Go.RowKit
/-- An archive whose end tells another number of files. -/
theorem readCount_good {N0 : Nat} {E0 : Errs} {es : List E} {c D : List UInt8} {many : Nat} (w : World) (hE : Env w N0 E0) (hg : goodB es c = true) (hm : many ≤ 65534) (hne : many ≠ es.length) (hD : D = filesL es ++ (dirL es 0 ++ endL many (dirL es 0).length (filesL es).length c)) (ho : endsL D = 1) :
    Calls Tryz.prog 28 #[.string (B D)] w (NotOk w) := by
  have hL : Lay D [] (filesL es) (dirL es 0) c [] many := lay_of hg hm (by rw [hD]; simp) (by simp) (by simp) ho
  obtain ⟨b, k, hA, hp⟩ := arc_good hg hL (.inl rfl)
  refine readCount_any _ b k D _ (hsOf es 0) w hE hA ?_
  rw [hsOf_length, hp, hL.n2 10 (by omega), hL.ebytes.f10]
  exact fun h => hne h.symm
set_option maxRecDepth 100000 in
set_option maxHeartbeats 1000000 in
theorem countSpoilt_any {N0 : Nat} {E0 : Errs} (es : List E) (c : List UInt8) (m : Int) (v : Value) (w : World) (hE : Env w N0 E0) (hv : IsList w v es) (hlen : es.length ≤ 9223372036854775807) (hc : c.length ≤ 9223372036854775807) :
    Calls Tryz.prog 12 #[v, .string (B c), .int .i64 m] w fun e w' => e = .returned (.bool true) ∧ Below w.heap.size w w' := by
  have HFT := Lib.hid (fits1_any es v w hv hlen)
  have HE := Lib.hid hE
  have HV := Lib.hid hv
  obtain ⟨fa, fcap, rfl, -⟩ := hv
  clear hE
  go_enter Tryz.func12, Tryz.ntmps12
  go_wp2_with fail
  refine HFT.out.mono ?_
  rintro e w1 ⟨rfl, hb1⟩
  have HB1 := Lib.hid hb1
  have HV1 := Lib.hid (HV.out.below hb1)
  clear hb1 HFT HV
  cases hft : fits1 es
  · go_wp2
    go_ret
    exact ⟨rfl, HB1.out⟩
  obtain ⟨hl1, hl2⟩ := fits1_small hft
  clear hft hl2
  by_cases hcl : c.length ≤ 2147483647
  · have hcl' : ¬ (2147483647 : Int) < c.length := by omega
    have HG := Lib.hid (good_any es c _ w1 HV1.out (by omega) (by omega))
    go_wp2_with fail
    refine HG.out.mono ?_
    rintro r w4 ⟨rfl, hb4⟩
    have HV4 := Lib.hid (HV1.out.below hb4)
    have HB4 := Lib.hid (below_up HB1.out hb4)
    clear hb4 HG HV1
    cases hgood : goodB es c
    · go_wp2
      go_ret
      exact ⟨rfl, HB4.out⟩
    have HGOOD := Lib.hid hgood
    clear hgood
    by_cases hm0 : m < 0
    · go_wp2
      go_ret
      exact ⟨rfl, HB4.out⟩
    obtain ⟨mm, rfl⟩ := Int.eq_ofNat_of_zero_le (by omega : 0 ≤ m)
    clear hm0
    by_cases hm1 : mm ≤ 65534
    · have hm1' : ¬ (65534 : Int) < (mm : Int) := by omega
      by_cases hm2 : mm = es.length
      · have hm2b : ((mm : Int) == (es.length : Int)) = true := by rw [beq_iff_eq]; omega
        clear hm2
        go_wp2
        go_ret
        exact ⟨rfl, HB4.out⟩
      have hm2b : ((mm : Int) == (es.length : Int)) = false := by rw [beq_eq_false_iff_ne]; omega
      have HNE := Lib.hid hm2
      clear hm2
      have hgp := good_parts HGOOD.out
      have HSM : Hid (∀ x ∈ es, Small x.hdr ∧ x.data.length ≤ 4611686018427387904) := Lib.hid fun x hx => by
        have := entryOk_small (List.all_eq_true.1 hgp.1 x hx)
        exact ⟨this.1, by omega⟩
      have hfl := filesL_ok hgp.1
      have hdl := dirL_ok hgp.1 0
      have HFI := Lib.hid (files_any es _ w4 HV4.out (by omega) (fun x hx => (HSM.out x hx).1) (by omega))
      have hgl := hgp.2.1
      have hgc := hgp.2.2.1
      clear hgp
      go_wp2_with fail
      refine HFI.out.mono ?_
      rintro r w5 ⟨rfl, hb5⟩
      have HB5 := Lib.hid (below_up HB4.out hb5)
      have HDI := Lib.hid (directory_any es _ w5 (HV4.out.below hb5) (by omega) HSM.out (by omega))
      clear hb5 HFI
      go_wp2_with fail
      refine HDI.out.mono ?_
      rintro r w6 ⟨rfl, hb6⟩
      have HB6 := Lib.hid (below_up HB5.out hb6)
      clear hb6 HDI
      go_wp2_with fail
      refine (end_any _ _ _ _ _ (by omega)).mono ?_
      rintro r w7 ⟨rfl, hb7⟩
      have HB7 := Lib.hid (below_up HB6.out hb7)
      have hle := length_endL mm (dirL es 0).length (filesL es).length c
      clear hb7
      obtain ⟨D, hD⟩ : ∃ D, D = filesL es ++ (dirL es 0 ++ endL mm (dirL es 0).length (filesL es).length c) := ⟨_, rfl⟩
      have hDl : D.length ≤ 4611686018427387904 := by rw [hD]; simp only [List.length_append]; omega
      have HEN := Lib.hid (ends_any D w7 hDl)
      obtain ⟨n, hn⟩ : ∃ n, n = endsL D := ⟨_, rfl⟩
      rw [← hn] at HEN
      by_cases hn1 : n = 1
      · have HR := Lib.hid (readCount_good (N0 := N0) (E0 := E0) w7 (HE.out.below HB7.out) HGOOD.out hm1 HNE.out hD (by omega))
        rw [hD] at HEN HR
        subst hn1
        clear hn hD
        go_wp2_with (first
          | (go_at_call 24; refine HEN.out.mono ?_; rintro r w8 ⟨rfl, rfl⟩)
          | (go_at_call 28; refine HR.out.mono ?_; rintro r w8 ⟨rfl, hb8⟩)
          | (go_at_call 23; refine (reads_any (E0 := E0) (N0 := N0) _ (HE.out.below (below_up HB7.out hb8.out))).mono ?_; rintro r w9 ⟨rfl, hb9⟩))
        all_goals (
          go_ret
          exact ⟨rfl, below_up (below_up HB7.out hb8.out) hb9⟩)
      · have hn1b : ¬ (n : Int) = 1 := by omega
        rw [hD] at HEN
        clear hn hD hn1
        go_wp2_with (first
          | (go_at_call 24; refine HEN.out.mono ?_; rintro r w8 ⟨rfl, rfl⟩)
          | (go_at_call 23; refine (reads_any (E0 := E0) (N0 := N0) _ (HE.out.below HB7.out)).mono ?_; rintro r w9 ⟨rfl, hb9⟩))
        all_goals (
          go_ret
          exact ⟨rfl, below_up HB7.out hb9⟩)
    · have hm1' : (65534 : Int) < (mm : Int) := by omega
      go_wp2
      go_ret
      exact ⟨rfl, HB4.out⟩
  · have hcl' : (2147483647 : Int) < c.length := by omega
    go_wp2
    go_ret
    exact ⟨rfl, HB1.out⟩
end Go.Proofs.Zip
namespace Go.Proofs.YtiipmnaonidojaaGreatDoor
open Go Go.ChangeShapes Go.WideShapes Go.ChangeAt Go.RowKit Go.Proofs.Zip Go.Deep
namespace fnCountSpoilt
abbrev fid : Nat := 12
theorem laid_same : Rows.fnCountSpoiltRow.laid = laidL := rfl
set_option maxRecDepth 100000 in
/-- What the walk gives, for every input that can be read. -/
theorem contract (H : Type) (enc : TypeId × Value → H) (W : World) (base : Nat) (args : Array Value) (ds gs : List (DataW H)) (before : List MemPlace)
    (hval : ∀ (j : Nat) t v, Tryz.f12.params[j]? = some t → args[j]? = some v → Value.okWide Tryz.prog W .any base t v)
    (hW : DataW.Whole enc Tryz.prog Tryz.f12.params.toList Rows.fnCountSpoiltSpec.vars false W args.toList ds gs before) (hL : laidMetH Tryz.prog Rows.fnCountSpoiltRow.laid W) :
    Calls Tryz.prog 12 args W fun e W' => ∃ v, e = .returned v ∧ Rows.fnCountSpoiltSpec.post enc Tryz.prog Tryz.f12 false true false false W args v W' := by
  have hW' := hW
  obtain ⟨p, q, hA0, hV, rfl, _, _⟩ := hW
  have hA : DataW.TrodAll enc Tryz.prog W 0 (fun _ => true) true Tryz.f12.params.toList args.toList ds p := hA0
  rw [Tryz.params12] at hA hval
  obtain ⟨v0, vs0, d0, ds0, p0, q0, hargs, rfl, rfl, h0, r0⟩ := trodAll_cons hA
  obtain ⟨v1, vs1, d1, ds1, p1, q1, rfl, rfl, rfl, h1, r1⟩ := trodAll_cons r0
  obtain ⟨v2, vs2, d2, ds2, p2, q2, rfl, rfl, rfl, h2, r2⟩ := trodAll_cons r1
  obtain ⟨rfl, rfl, rfl⟩ := trodAll_nil r2
  obtain rfl : args = #[v0, v1, v2] := by cases args; simp_all
  obtain ⟨E0, hE⟩ : ∃ E0, Env W W.heap.size E0 := by
    rw [laid_same] at hL
    rw [MakeChecks.laidMetH_plain _ _ _ (by kernel_rfl)] at hL
    exact env_of hL
  have hk0 := h0
  have hk1 := h1
  have hk2 := h2
  obtain ⟨es0, hes0, hel0⟩ := rd_list h0 (okWide_slice Tryz.underlying22 (hval 0 22 v0 rfl rfl))
  obtain ⟨c1, rfl, hc1⟩ : ∃ l : List UInt8, v1 = .string (B l) ∧ l.length ≤ 9223372036854775807 := rd_text h1 (hval 1 9 v1 rfl rfl)
  obtain ⟨n2, rfl, -, -, wf2⟩ := open_int Tryz.underlying3 (hval 2 3 v2 rfl rfl) h2
  have hlt : ∀ x ∈ ((p0 ++ (p1 ++ (p2 ++ [])))) ++ q, x.block < W.heap.size := fun x hx => by simpa using hW'.lt x (by simpa using hx)
  refine (countSpoilt_any es0 c1 n2 v0 W hE hes0 hel0 hc1).mono fun e W' ⟨he, hb⟩ => ?_
  subst he
  have hV' := Below.trodVars laidOut hb varsOk hV
  obtain ⟨g1, g2, g3, g4, rfl⟩ := four_of_vars hV
  refine ⟨_, rfl, _, _, _, [], p0 ++ (p1 ++ (p2 ++ ([]))), q, hW', trodAll_cons_mk (shut_bool Tryz.underlying4 true) trodAll_mk0, ?_, hV', hb.frame _, fun h => by cases h⟩
  exact trodAll_cons_mk (Below.trod laidOut (by kernel_rfl) (of_decide_eq_true (by kernel_rfl)) hk0 hb (fun x hx => hlt x (by simp [hx]))) (trodAll_cons_mk (Below.trod laidOut (by kernel_rfl) (of_decide_eq_true (by kernel_rfl)) hk1 hb (fun x hx => hlt x (by simp [hx]))) (trodAll_cons_mk (Below.trod laidOut (by kernel_rfl) (of_decide_eq_true (by kernel_rfl)) hk2 hb (fun x hx => hlt x (by simp [hx]))) (trodAll_mk0)))
set_option maxRecDepth 100000 in
theorem lifted (os : Os) (started : os.Started) (H : Type) (enc : TypeId × Value → H) :
    ReturnsInHanded {} Tryz.checked os 12 .any (fun w args => (Rows.fnCountSpoiltSpec.pre enc Tryz.prog Tryz.f12 Rows.fnCountSpoiltRow.domain false w args ∧ laidMetH Tryz.prog Rows.fnCountSpoiltRow.laid w) ∧ sizedMet enc Tryz.prog Tryz.f12 (OpenSpec.ofChange Rows.fnCountSpoiltSpec) false w args)
      (Rows.fnCountSpoiltSpec.post enc Tryz.prog Tryz.f12 false true false false) := by
  refine returnsInHanded_of_change_and (C := Tryz.checked) (X := fun w _ => laidMetH Tryz.prog Rows.fnCountSpoiltRow.laid w) (fun _ _ _ hh h => h.of_heap hh) own started (by kernel_rfl) Tryz.func12
    (ChangeSpec.witness_shaped (enc := enc) (C := Tryz.checked) (os := os) (X := fun w _ => laidMetH Tryz.prog Rows.fnCountSpoiltRow.laid w) false (World.laidAll Tryz.prog os Rows.fnCountSpoiltRow.laid) #[.slice none 0 0, .string ByteArray.empty, .int .i64 0] 8 (World.laidAll_os _ _ _)
      (World.shaped_of_ZipB (by kernel_rfl) (by kernel_rfl)) (by kernel_rfl) (by kernel_rfl) (by kernel_rfl)
      (by rw [MakeChecks.laidMetH_plain _ _ _ (by kernel_rfl)]; exact laidMet_laidAll _ (by kernel_rfl) (by kernel_rfl))) ?_
  intro W base args ds gs before hval hW _ _ hL _
  exact contract H enc W base args ds gs before hval hW hL
set_option maxRecDepth 100000 in
set_option maxHeartbeats 8000000 in
theorem closed : joinedFacts Tryz.pinned.checked.prog 12 Tryz.f12 Rows.fnCountSpoiltSpec Rows.fnCountSpoiltRow = true := by
  unfold joinedFacts
  rw [show Tryz.pinned.checked.prog = Tryz.prog from rfl, head_enter, head_final, head_make]
  repeat' (with_reducible refine Bool.and_eq_true_iff.2 ⟨?_, ?_⟩)
  all_goals as_aux_lemma => kernel_rfl
theorem wrapped : Tryz.f12.isWrapper Tryz.pinned.checked.prog Rows.fnCountSpoiltRow.wrapper Rows.fnCountSpoiltRow.mainSum := by unfold Func.isWrapper; first | (rw [if_pos (by decide +kernel)]; kernel_rfl) | (rw [if_neg (by decide +kernel)]; exact ⟨rfl, rfl⟩)
set_option maxRecDepth 100000 in
theorem said : Rows.FnCountSpoiltSaid :=
  OpenClaim.holds_of_wide 12 Tryz.f12 rfl rfl rfl rfl rfl rfl rfl ⟨rfl, rfl, rfl, rfl, rfl⟩ rfl rfl rfl rfl rfl (by kernel_rfl) Tryz.func12 closed
    (of_decide_eq_true (by kernel_rfl)) wrapped
    (fun os started H enc _ => lifted os started H enc)
/-- No parameter wants a stand-in. -/
theorem plain (f : FuncId) (fn : Func) (hf : Tryz.pinned.checked.prog.funcNamed "loop.example/pub-ziparchives/laws.FnCountSpoilt" = some f) (hfn : Tryz.pinned.checked.prog.funcs[f]? = some fn) :
    true = Tryz.pinned.checked.prog.looks [] ∧ ∀ (j : Nat) t, fn.params[j]? = some t → Tryz.pinned.checked.prog.wantsStandIn t = false := by
  obtain rfl : f = 12 := Option.some.inj ((show Tryz.prog.funcNamed "loop.example/pub-ziparchives/laws.FnCountSpoilt" = some 12 by kernel_rfl).symm.trans hf) |>.symm
  obtain rfl : fn = Tryz.f12 := (Option.some.inj (Tryz.func12.symm.trans hfn)).symm
  refine ⟨by kernel_rfl, fun j t ht => ?_⟩
  rw [Tryz.params12] at ht
  have hm : t ∈ [22, 9, 3] := by simpa using Array.mem_of_getElem? ht
  have hall : ([22, 9, 3].all fun u => !Tryz.prog.wantsStandIn u) = true := by kernel_rfl
  exact (show Tryz.prog.wantsStandIn t = false by simpa using List.all_eq_true.1 hall t hm)
set_option maxRecDepth 100000 in
/-- THE CARD. -/
theorem card : Rows.FnCountSpoiltCardSaid :=
  Claim7.holds_tied_plain_at .later [] _ _ _ _ said (fun _ h => by cases h) (by kernel_rfl) (fun _ h => by cases h) fnCountSpoilt_row_tie rfl ⟨rfl, rfl⟩ head_main rfl plain (by kernel_rfl)
end fnCountSpoilt
end Go.Proofs.YtiipmnaonidojaaGreatDoor
