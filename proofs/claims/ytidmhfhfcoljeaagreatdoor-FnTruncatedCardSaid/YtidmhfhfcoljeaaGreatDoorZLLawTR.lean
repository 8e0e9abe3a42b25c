/- What is proved: for every list of entries, every comment and every number, FnTruncated returns true and leaves its arguments as they read: the beginning of an archive alone is not read. Conditions: none beyond the row's own: the arguments can be read as data, and the package variables that the row lists hold what the program's text lays (the card ties that). -/
import Derived.Test.YtidmhfhfcoljeaaGreatDoorZT
import Derived.Test.YtidmhfhfcoljeaaGreatDoorZS
import Derived.Test.YtidmhfhfcoljeaaGreatDoorZR
namespace Go.Proofs.Zip
open Go Go.RowKit
theorem byteAt_take (D : List UInt8) (n i : Nat) : byteAt (D.take n) i = if i < n then byteAt D i else 0 := by
  unfold byteAt
  rw [List.getElem?_take]
  split <;> rfl
theorem sigAt_take {D : List UInt8} {n i : Nat} (h : sigAt (D.take n) i) : sigAt D i ∧ i + 4 ≤ n := by
  unfold sigAt at h ⊢
  simp only [byteAt_take] at h
  obtain ⟨h0, h1, h2, h3⟩ := h
  have hn : i + 3 < n := by
    apply Classical.byContradiction
    intro hn
    rw [if_neg hn] at h3
    cases h3
  rw [if_pos (by omega)] at h0 h1 h2 h3
  exact ⟨⟨h0, h1, h2, h3⟩, by omega⟩
/-- No end is found in the beginning of an archive. -/
theorem Lay.cut {D pre F Dr c : List UInt8} {many : Nat} (h : Lay D pre F Dr c [] many) (n : Nat) (hn : n < D.length) : Found (D.take n) none := by
  have hl := h.len
  have hcl := h.clen
  have hs0 := h.sig
  have hu : ∀ i, sigAt (D.take n) i → i = pre.length + F.length + Dr.length := fun i hi => sig_once (Nat.le_of_eq h.once) (sigAt_take hi).1 h.sig
  obtain ⟨p, hpe⟩ : ∃ p, p = pre.length + F.length + Dr.length := ⟨_, rfl⟩
  rw [← hpe] at hl hu hcl hs0
  have hlen : (D.take n).length = n := by rw [List.length_take]; omega
  simp only [List.length_nil] at hl
  refine found_no fun b hb => ?_
  rw [hlen] at hb
  by_cases hp : n - b ≤ p ∧ p + 22 ≤ n
  · have hs : sigAt (D.take n) p := by
      unfold sigAt at hs0 ⊢
      simp only [byteAt_take]
      rw [if_pos (by omega), if_pos (by omega), if_pos (by omega), if_pos (by omega)]
      exact hs0
    have hc2 : clenAt (D.take n) p = c.length := by
      rw [← hcl]
      unfold clenAt
      rw [byteAt_take, byteAt_take, if_pos (by omega), if_pos (by omega)]
    rw [lastSig_in (p := p) (by rw [hlen]; exact hb) (by rw [hlen]; omega) (by rw [hlen]; omega) hs hu, hc2, hlen, if_pos (by omega)]
  · refine lastSig_out (fun i hi => ?_) (by rw [hlen]; exact hb)
    have := hu i hi
    rw [hlen]
    omega
theorem readCut_good {N0 : Nat} {E0 : Errs} {es : List E} {c : List UInt8} {n : Nat} (w : World) (hE : Env w N0 E0) (hg : goodB es c = true) (hn : n < (archiveL es c).length) :
    Calls Tryz.prog 13 #[.string (B (List.take n (archiveL es c)))] w (NotOk w) := by
  have hL := good_lay hg
  have hl := hL.len
  have := hL.F
  have := hL.Dr
  have := hL.c
  exact readNoEnd_any _ w hE (by rw [List.length_take]; simp only [List.length_nil] at hl; omega) (hL.cut n hn)
set_option maxRecDepth 100000 in
set_option maxHeartbeats 1000000 in
theorem truncated_any {N0 : Nat} {E0 : Errs} (es : List E) (c : List UInt8) (n : Int) (v : Value) (w : World) (hE : Env w N0 E0) (hv : IsList w v es) (hlen : es.length ≤ 9223372036854775807) (hc : c.length ≤ 9223372036854775807) :
    Calls Tryz.prog 3 #[v, .string (B c), .int .i64 n] w fun e w' => e = .returned (.bool true) ∧ Below w.heap.size w w' := by
  have HFT := Lib.hid (fits1_any es v w hv hlen)
  have HE := Lib.hid hE
  have HV := Lib.hid hv
  obtain ⟨fa, fcap, rfl, -⟩ := hv
  clear hE
  go_enter Tryz.func3, Tryz.ntmps3
  go_wp2_with fail
  refine HFT.out.mono ?_
  rintro e w1 ⟨rfl, hb1⟩
  have HB1 := Lib.hid hb1
  have HV1 := Lib.hid (HV.out.below hb1)
  clear hb1 HFT HV
  cases hft : fits1 es
  · go_wp2
    go_ret
    exact ⟨rfl, HB1.out⟩
  obtain ⟨hl1, hl2⟩ := fits1_small hft
  clear hft hl2
  by_cases hcl : c.length ≤ 2147483647
  · have hcl' : ¬ (2147483647 : Int) < c.length := by omega
    have HG := Lib.hid (good_any es c _ w1 HV1.out (by omega) (by omega))
    go_wp2_with fail
    refine HG.out.mono ?_
    rintro r w4 ⟨rfl, hb4⟩
    have HV4 := Lib.hid (HV1.out.below hb4)
    have HB4 := Lib.hid (below_up HB1.out hb4)
    clear hb4 HG HV1
    cases hgood : goodB es c
    · go_wp2
      go_ret
      exact ⟨rfl, HB4.out⟩
    have HGOOD := Lib.hid hgood
    clear hgood
    have HAR := Lib.hid (archive_good HGOOD.out _ w4 HV4.out)
    go_wp2_with fail
    refine HAR.out.mono ?_
    rintro r w5 ⟨rfl, hb5⟩
    have HB5 := Lib.hid (below_up HB4.out hb5)
    have HRD := Lib.hid (fun nn (h : nn < (archiveL es c).length) => readCut_good (n := nn) (N0 := N0) (E0 := E0) w5 (HE.out.below HB5.out) HGOOD.out h)
    have hDl : (archiveL es c).length ≤ 17179869184 := by
      have hL := good_lay HGOOD.out
      have hl := hL.len
      have := hL.F
      have := hL.Dr
      have := hL.c
      simp only [List.length_nil] at hl
      omega
    clear hb5 HAR HV4
    generalize archiveL es c = D at HRD hDl
    by_cases hn0 : n < 0
    · go_wp2
      go_ret
      exact ⟨rfl, HB5.out⟩
    obtain ⟨nn, rfl⟩ := Int.eq_ofNat_of_zero_le (by omega : 0 ≤ n)
    clear hn0
    by_cases hn1 : nn < D.length
    · have hn1' : ¬ (D.length : Int) ≤ (nn : Int) := by omega
      have HRD := Lib.hid (HRD.out nn hn1)
      go_wp2_with (first
        | (go_at_call 13; refine HRD.out.mono ?_; rintro r w6 ⟨rfl, hb6⟩)
        | (go_at_call 14; refine (reads_any (E0 := E0) (N0 := N0) _ (HE.out.below (below_up HB5.out hb6.out))).mono ?_; rintro r w9 ⟨rfl, hb9⟩))
      all_goals (
        go_ret
        exact ⟨rfl, below_up (below_up HB5.out hb6.out) hb9⟩)
    · have hn1' : (D.length : Int) ≤ (nn : Int) := by omega
      go_wp2
      go_ret
      exact ⟨rfl, HB5.out⟩
  · have hcl' : (2147483647 : Int) < c.length := by omega
    go_wp2
    go_ret
    exact ⟨rfl, HB1.out⟩
end Go.Proofs.Zip
namespace Go.Proofs.YtidmhfhfcoljeaaGreatDoor
open Go Go.ChangeShapes Go.WideShapes Go.ChangeAt Go.RowKit Go.Proofs.Zip Go.Deep
namespace fnTruncated
abbrev fid : Nat := 3
theorem laid_same : Rows.fnTruncatedRow.laid = laidL := rfl
set_option maxRecDepth 100000 in
/-- What the walk gives, for every input that can be read. -/
theorem contract (H : Type) (enc : TypeId × Value → H) (W : World) (base : Nat) (args : Array Value) (ds gs : List (DataW H)) (before : List MemPlace)
    (hval : ∀ (j : Nat) t v, Tryz.f3.params[j]? = some t → args[j]? = some v → Value.okWide Tryz.prog W .any base t v)
    (hW : DataW.Whole enc Tryz.prog Tryz.f3.params.toList Rows.fnTruncatedSpec.vars false W args.toList ds gs before) (hL : laidMetH Tryz.prog Rows.fnTruncatedRow.laid W) :
    Calls Tryz.prog 3 args W fun e W' => ∃ v, e = .returned v ∧ Rows.fnTruncatedSpec.post enc Tryz.prog Tryz.f3 false true false false W args v W' := by
  have hW' := hW
  obtain ⟨p, q, hA0, hV, rfl, _, _⟩ := hW
  have hA : DataW.TrodAll enc Tryz.prog W 0 (fun _ => true) true Tryz.f3.params.toList args.toList ds p := hA0
  rw [Tryz.params3] at hA hval
  obtain ⟨v0, vs0, d0, ds0, p0, q0, hargs, rfl, rfl, h0, r0⟩ := trodAll_cons hA
  obtain ⟨v1, vs1, d1, ds1, p1, q1, rfl, rfl, rfl, h1, r1⟩ := trodAll_cons r0
  obtain ⟨v2, vs2, d2, ds2, p2, q2, rfl, rfl, rfl, h2, r2⟩ := trodAll_cons r1
  obtain ⟨rfl, rfl, rfl⟩ := trodAll_nil r2
  obtain rfl : args = #[v0, v1, v2] := by cases args; simp_all
  obtain ⟨E0, hE⟩ : ∃ E0, Env W W.heap.size E0 := by
    rw [laid_same] at hL
    rw [MakeChecks.laidMetH_plain _ _ _ (by kernel_rfl)] at hL
    exact env_of hL
  have hk0 := h0
  have hk1 := h1
  have hk2 := h2
  obtain ⟨es0, hes0, hel0⟩ := rd_list h0 (okWide_slice Tryz.underlying22 (hval 0 22 v0 rfl rfl))
  obtain ⟨c1, rfl, hc1⟩ : ∃ l : List UInt8, v1 = .string (B l) ∧ l.length ≤ 9223372036854775807 := rd_text h1 (hval 1 9 v1 rfl rfl)
  obtain ⟨n2, rfl, -, -, wf2⟩ := open_int Tryz.underlying3 (hval 2 3 v2 rfl rfl) h2
  have hlt : ∀ x ∈ ((p0 ++ (p1 ++ (p2 ++ [])))) ++ q, x.block < W.heap.size := fun x hx => by simpa using hW'.lt x (by simpa using hx)
  refine (truncated_any es0 c1 n2 v0 W hE hes0 hel0 hc1).mono fun e W' ⟨he, hb⟩ => ?_
  subst he
  have hV' := Below.trodVars laidOut hb varsOk hV
  obtain ⟨g1, g2, g3, g4, rfl⟩ := four_of_vars hV
  refine ⟨_, rfl, _, _, _, [], p0 ++ (p1 ++ (p2 ++ ([]))), q, hW', trodAll_cons_mk (shut_bool Tryz.underlying4 true) trodAll_mk0, ?_, hV', hb.frame _, fun h => by cases h⟩
  exact trodAll_cons_mk (Below.trod laidOut (by kernel_rfl) (of_decide_eq_true (by kernel_rfl)) hk0 hb (fun x hx => hlt x (by simp [hx]))) (trodAll_cons_mk (Below.trod laidOut (by kernel_rfl) (of_decide_eq_true (by kernel_rfl)) hk1 hb (fun x hx => hlt x (by simp [hx]))) (trodAll_cons_mk (Below.trod laidOut (by kernel_rfl) (of_decide_eq_true (by kernel_rfl)) hk2 hb (fun x hx => hlt x (by simp [hx]))) (trodAll_mk0)))
set_option maxRecDepth 100000 in
theorem lifted (os : Os) (started : os.Started) (H : Type) (enc : TypeId × Value → H) :
    ReturnsInHanded {} Tryz.checked os 3 .any (fun w args => (Rows.fnTruncatedSpec.pre enc Tryz.prog Tryz.f3 Rows.fnTruncatedRow.domain false w args ∧ laidMetH Tryz.prog Rows.fnTruncatedRow.laid w) ∧ sizedMet enc Tryz.prog Tryz.f3 (OpenSpec.ofChange Rows.fnTruncatedSpec) false w args)
      (Rows.fnTruncatedSpec.post enc Tryz.prog Tryz.f3 false true false false) := by
  refine returnsInHanded_of_change_and (C := Tryz.checked) (X := fun w _ => laidMetH Tryz.prog Rows.fnTruncatedRow.laid w) (fun _ _ _ hh h => h.of_heap hh) own started (by kernel_rfl) Tryz.func3
    (ChangeSpec.witness_shaped (enc := enc) (C := Tryz.checked) (os := os) (X := fun w _ => laidMetH Tryz.prog Rows.fnTruncatedRow.laid w) false (World.laidAll Tryz.prog os Rows.fnTruncatedRow.laid) #[.slice none 0 0, .string ByteArray.empty, .int .i64 0] 8 (World.laidAll_os _ _ _)
      (World.shaped_of_ZipB (by kernel_rfl) (by kernel_rfl)) (by kernel_rfl) (by kernel_rfl) (by kernel_rfl)
      (by rw [MakeChecks.laidMetH_plain _ _ _ (by kernel_rfl)]; exact laidMet_laidAll _ (by kernel_rfl) (by kernel_rfl))) ?_
  intro W base args ds gs before hval hW _ _ hL _
  exact contract H enc W base args ds gs before hval hW hL
set_option maxRecDepth 100000 in
set_option maxHeartbeats 8000000 in
theorem closed : joinedFacts Tryz.pinned.checked.prog 3 Tryz.f3 Rows.fnTruncatedSpec Rows.fnTruncatedRow = true := by
  unfold joinedFacts
  rw [show Tryz.pinned.checked.prog = Tryz.prog from rfl, head_enter, head_final, head_make]
  repeat' (with_reducible refine Bool.and_eq_true_iff.2 ⟨?_, ?_⟩)
  all_goals as_aux_lemma => kernel_rfl
theorem wrapped : Tryz.f3.isWrapper Tryz.pinned.checked.prog Rows.fnTruncatedRow.wrapper Rows.fnTruncatedRow.mainSum := by unfold Func.isWrapper; first | (rw [if_pos (by decide +kernel)]; kernel_rfl) | (rw [if_neg (by decide +kernel)]; exact ⟨rfl, rfl⟩)
set_option maxRecDepth 100000 in
theorem said : Rows.FnTruncatedSaid :=
  OpenClaim.holds_of_wide 3 Tryz.f3 rfl rfl rfl rfl rfl rfl rfl ⟨rfl, rfl, rfl, rfl, rfl⟩ rfl rfl rfl rfl rfl (by kernel_rfl) Tryz.func3 closed
    (of_decide_eq_true (by kernel_rfl)) wrapped
    (fun os started H enc _ => lifted os started H enc)
/-- No parameter wants a stand-in. -/
theorem plain (f : FuncId) (fn : Func) (hf : Tryz.pinned.checked.prog.funcNamed "loop.example/pub-ziparchives/laws.FnTruncated" = some f) (hfn : Tryz.pinned.checked.prog.funcs[f]? = some fn) :
    true = Tryz.pinned.checked.prog.looks [] ∧ ∀ (j : Nat) t, fn.params[j]? = some t → Tryz.pinned.checked.prog.wantsStandIn t = false := by
  obtain rfl : f = 3 := Option.some.inj ((show Tryz.prog.funcNamed "loop.example/pub-ziparchives/laws.FnTruncated" = some 3 by kernel_rfl).symm.trans hf) |>.symm
  obtain rfl : fn = Tryz.f3 := (Option.some.inj (Tryz.func3.symm.trans hfn)).symm
  refine ⟨by kernel_rfl, fun j t ht => ?_⟩
  rw [Tryz.params3] at ht
  have hm : t ∈ [22, 9, 3] := by simpa using Array.mem_of_getElem? ht
  have hall : ([22, 9, 3].all fun u => !Tryz.prog.wantsStandIn u) = true := by kernel_rfl
  exact (show Tryz.prog.wantsStandIn t = false by simpa using List.all_eq_true.1 hall t hm)
set_option maxRecDepth 100000 in
/-- THE CARD. -/
theorem card : Rows.FnTruncatedCardSaid :=
  Claim7.holds_tied_plain_at .later [] _ _ _ _ said (fun _ h => by cases h) (by kernel_rfl) (fun _ h => by cases h) fnTruncated_row_tie rfl ⟨rfl, rfl⟩ head_main rfl plain (by kernel_rfl)
end fnTruncated
end Go.Proofs.YtidmhfhfcoljeaaGreatDoor
