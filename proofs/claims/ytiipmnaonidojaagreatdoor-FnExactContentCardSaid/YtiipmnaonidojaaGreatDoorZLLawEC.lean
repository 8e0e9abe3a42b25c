/- What is proved: for every list of entries, every comment and every index, FnExactContent returns true and leaves its arguments as they read: a stored file of an archive that the reference writes is read back as it is. Conditions: none beyond the row's own: the arguments can be read as data, and the package variables that the row lists hold what the program's text lays (the card ties that). -/
import Derived.Test.YtiipmnaonidojaaGreatDoorZQ
import Derived.Test.YtiipmnaonidojaaGreatDoorZR
namespace Go.Proofs.Zip
open Go Go.RowKit
set_option maxRecDepth 100000 in
set_option maxHeartbeats 4000000 in
theorem exactContent_any {N0 : Nat} {E0 : Errs} (es : List E) (c : List UInt8) (k : Int) (v : Value) (w : World) (hE : Env w N0 E0) (hv : IsList w v es) (hlen : es.length ≤ 9223372036854775807) (hc : c.length ≤ 9223372036854775807) :
    Calls Tryz.prog 8 #[v, .string (B c), .int .i64 k] w fun e w' => e = .returned (.bool true) ∧ Below w.heap.size w w' := by
  have HFT := Lib.hid (fits1_any es v w hv hlen)
  have HE := Lib.hid hE
  have HV := Lib.hid hv
  clear hE hv
  go_enter Tryz.func8, Tryz.ntmps8
  go_wp2_with fail
  refine HFT.out.mono ?_
  rintro e w1 ⟨rfl, hb1⟩
  have HB1 := Lib.hid hb1
  clear hb1 HFT
  cases hft : fits1 es
  · go_wp2
    go_ret
    exact ⟨rfl, HB1.out⟩
  obtain ⟨hl1, hl2⟩ := fits1_small hft
  have HL2 := Lib.hid hl2
  clear hft hl2
  by_cases hcl : c.length ≤ 2147483647
  · have hcl' : ¬ (2147483647 : Int) < c.length := by omega
    have HAS := Lib.hid (allStored_any es v w1 (HV.out.below HB1.out) hl1 (fun e he => by have := HL2.out e he; omega))
    go_wp2_with fail
    refine HAS.out.mono ?_
    rintro e w2 ⟨u, rfl, hown, hb2⟩
    obtain ⟨es', hes'⟩ : ∃ l, l = es.map storedE := ⟨_, rfl⟩
    have hlen' : es'.length = es.length := by rw [hes']; simp
    rw [← hes', ← hlen'] at hown
    have HLI := Lib.hid (isList_own hown)
    have HES := Lib.hid hes'
    have HB2 := Lib.hid (below_up HB1.out hb2)
    have HLE := Lib.hid hlen'
    clear hown hb2 HAS hes'
    have HG := Lib.hid (good_any es' c u w2 HLI.out (by omega) (by omega))
    clear hlen'
    go_wp2_with fail
    refine HG.out.mono ?_
    rintro e w3 ⟨rfl, hb3⟩
    have HLI3 := Lib.hid (HLI.out.below hb3)
    have HB3 := Lib.hid (below_up HB2.out hb3)
    clear hb3 HG HLI
    cases hgood : goodB es' c
    · go_wp2
      go_ret
      exact ⟨rfl, HB3.out⟩
    have HGOOD := Lib.hid hgood
    clear hgood
    have HD := Lib.hid (directories_any es' u w3 HLI3.out (by have := HLE.out; omega) (fun e he => by
      have := (entryOk_small (List.all_eq_true.1 (good_parts HGOOD.out).1 e he)).1.name; omega))
    go_wp2_with fail
    refine HD.out.mono ?_
    rintro e w4 ⟨rfl, hb4⟩
    have HLI4 := Lib.hid (HLI3.out.below hb4)
    have HB4 := Lib.hid (below_up HB3.out hb4)
    clear hb4 HD HLI3
    cases hdir : directoriesB es'
    · go_wp2
      go_ret
      exact ⟨rfl, HB4.out⟩
    have HDIR := Lib.hid hdir
    clear hdir
    by_cases hk0 : k < 0
    · go_wp2
      go_ret
      exact ⟨rfl, HB4.out⟩
    obtain ⟨kk, rfl⟩ := Int.eq_ofNat_of_zero_le (by omega : 0 ≤ k)
    clear hk0
    by_cases hk1 : kk < es'.length
    · obtain ⟨b, off, cap, rfl, hblt, hr⟩ := HLI4.out.at hk1
      obtain ⟨e, he⟩ : ∃ e, e = es'[kk] := ⟨_, rfl⟩
      rw [← he] at hr
      have HEQ := Lib.hid he
      clear he
      have HSM := Lib.hid (simple_any e.hdr w4)
      have hkd1 : decide ((kk : Int) < 0) = false := by simp
      have hkd2 : decide (es'.length ≤ kk) = false := by simp; omega
      have hrh : w4.rangeAt b (off + kk * 15) e.hdr.cells := rangeAt_part (n := 0) hr rfl
      go_wp2_with (first
        | (refine wpList_load_want 26 _ rfl b (off + kk * 15) rfl e.hdr.cells _ hrh Tryz.underlying26 rfl sizeHdr rfl ?_)
        | (go_at_call 19; refine HSM.out.mono ?_; rintro r w5 ⟨rfl, hb5⟩))
      · go_ret
        exact ⟨rfl, below_up HB4.out hb5⟩
      · have hsm : simpleB e.hdr = true := by
          have h : (!simpleB e.hdr) = false := ‹_›
          simpa using h
        have HB5 := Lib.hid (below_up HB4.out hb5)
        have HLI5 := Lib.hid (HLI4.out.below hb5)
        have hr5 := rangeAt_below hb5 hr hblt
        have hblt5 := keepSize hb5 hblt
        obtain ⟨e1, he1⟩ : ∃ e1, e1 ∈ es ∧ e = storedE e1 := by
          have := List.getElem_mem hk1
          rw [← HEQ.out, HES.out, List.mem_map] at this
          obtain ⟨x, hx, hx2⟩ := this
          exact ⟨x, hx, hx2.symm⟩
        have hok : entryOk e = true := by
          rw [HEQ.out]; exact List.all_eq_true.1 (good_parts HGOOD.out).1 _ (List.getElem_mem hk1)
        have hbit : (bits .and .u16 e.hdr.flags 8 != 0) = false := by
          refine simple_bit ?_ hsm
          simp only [entryOk, Bool.and_eq_true] at hok
          exact (HOk.of hok.1).flags
        have hgp := good_parts HGOOD.out
        have hfl := filesL_ok hgp.1
        have hdl := dirL_ok hgp.1 0
        have HAR := Lib.hid (archive_any es' c _ w5 HLI5.out (by omega) (fun x hx => by
          have := entryOk_small (List.all_eq_true.1 hgp.1 x hx)
          exact ⟨this.1, by omega⟩) (by omega) (by omega) (by omega))
        have hE5 := HE.out.below HB5.out
        have hst : es'[kk].hdr.method = 0 → slash es'[kk].hdr.name = false → es'[kk].hdr.packed = (es'[kk].data.length : Int) ∧ (es'[kk].data.length : Int) ≤ es'[kk].hdr.size ∧ (bits .and .u16 es'[kk].hdr.flags 8 != 0) = false := by
          rw [← HEQ.out]
          intro _ _
          refine ⟨?_, ?_, hbit⟩
          · rw [he1.2]; rfl
          · rw [he1.2]; exact Int.le_refl _
        have HCT := Lib.hid (fun w6 (hb : Below w5.heap.size w5 w6) => content_good (w := w6) (hE5.below hb) HGOOD.out (good_lay HGOOD.out) (.inl rfl) hk1 hst)
        have HHE : Hid (e.hdr.method = 0 ∧ e.hdr.size = (e.data.length : Int) ∧ e.hdr.crc = crc e.data) := Lib.hid (by rw [he1.2]; exact ⟨rfl, rfl, rfl⟩)
        have HSL : Hid (slash e.hdr.name = true → e.data = []) := Lib.hid (by rw [HEQ.out]; exact dirOk_of HDIR.out hk1)
        clear hst hE5 hgp hfl hdl hbit hok he1 hr hblt hb5 hrh HSM HLI4
        go_wp2_with fail
        refine HAR.out.mono ?_
        rintro r w6 ⟨rfl, hb6⟩
        have HCT6 := Lib.hid (HCT.out w6 hb6)
        rw [← HEQ.out] at HCT6
        have HB6 := Lib.hid (below_up HB5.out hb6)
        have hr6 := rangeAt_below hb6 hr5 hblt5
        have hblt6 := keepSize hb6 hblt5
        clear HCT HAR hb6 hr5 hblt5
        go_wp2_with fail
        refine HCT6.out.mono ?_
        rintro r w7 ⟨l, n, rfl, hn, hb7⟩
        have HB7 := Lib.hid (below_up HB6.out hb7.out)
        have hr7 := rangeAt_below hb7.out hr6 hblt6
        have hcd : w7.cell? ⟨b, off + kk * 15 + 14, none⟩ = some (.string (B e.data)) := hr7 14 _ rfl
        have hln : l = e.data ∧ n = 0 := by
          obtain ⟨q1, q2, q3⟩ := hn.out
          obtain ⟨h1, h2, h3⟩ := HHE.out
          cases hs : slash e.hdr.name
          · obtain ⟨r1, r2, r3, r4⟩ := q3 hs h1
            have := r4 h2 (.inr h3.symm)
            exact ⟨r1 this, this⟩
          · have h4 := HSL.out hs
            obtain ⟨r1, r2⟩ := q1 hs
            have := r1 (by rw [h2, h4]; rfl)
            rw [h4]; exact this
        obtain ⟨rfl, rfl⟩ := hln
        have HRE := Lib.hid (reads_any (E0 := E0) (N0 := N0) w7 (HE.out.below HB7.out))
        clear hn hb7 hr7 hr6 hblt6 HCT6
        go_wp2_with (first | (go_at_call 23; refine HRE.out.mono ?_; rintro r w8 ⟨rfl, hb8⟩))
        all_goals (
          go_ret
          exact ⟨rfl, below_up HB7.out hb8⟩)
    · obtain ⟨fx, fcap, hfm⟩ : ∃ x cap, u = .slice x es'.length cap := by
        obtain ⟨x, cap, h, _⟩ := HLI4.out
        exact ⟨x, cap, h⟩
      subst hfm
      go_wp2
      go_ret
      exact ⟨rfl, HB4.out⟩
  · have hcl' : (2147483647 : Int) < c.length := by omega
    go_wp2
    go_ret
    exact ⟨rfl, HB1.out⟩
end Go.Proofs.Zip
namespace Go.Proofs.YtiipmnaonidojaaGreatDoor
open Go Go.ChangeShapes Go.WideShapes Go.ChangeAt Go.RowKit Go.Proofs.Zip Go.Deep
namespace fnExactContent
abbrev fid : Nat := 8
theorem laid_same : Rows.fnExactContentRow.laid = laidL := rfl
set_option maxRecDepth 100000 in
/-- What the walk gives, for every input that can be read. -/
theorem contract (H : Type) (enc : TypeId × Value → H) (W : World) (base : Nat) (args : Array Value) (ds gs : List (DataW H)) (before : List MemPlace)
    (hval : ∀ (j : Nat) t v, Tryz.f8.params[j]? = some t → args[j]? = some v → Value.okWide Tryz.prog W .any base t v)
    (hW : DataW.Whole enc Tryz.prog Tryz.f8.params.toList Rows.fnExactContentSpec.vars false W args.toList ds gs before) (hL : laidMetH Tryz.prog Rows.fnExactContentRow.laid W) :
    Calls Tryz.prog 8 args W fun e W' => ∃ v, e = .returned v ∧ Rows.fnExactContentSpec.post enc Tryz.prog Tryz.f8 false true false false W args v W' := by
  have hW' := hW
  obtain ⟨p, q, hA0, hV, rfl, _, _⟩ := hW
  have hA : DataW.TrodAll enc Tryz.prog W 0 (fun _ => true) true Tryz.f8.params.toList args.toList ds p := hA0
  rw [Tryz.params8] at hA hval
  obtain ⟨v0, vs0, d0, ds0, p0, q0, hargs, rfl, rfl, h0, r0⟩ := trodAll_cons hA
  obtain ⟨v1, vs1, d1, ds1, p1, q1, rfl, rfl, rfl, h1, r1⟩ := trodAll_cons r0
  obtain ⟨v2, vs2, d2, ds2, p2, q2, rfl, rfl, rfl, h2, r2⟩ := trodAll_cons r1
  obtain ⟨rfl, rfl, rfl⟩ := trodAll_nil r2
  obtain rfl : args = #[v0, v1, v2] := by cases args; simp_all
  obtain ⟨E0, hE⟩ : ∃ E0, Env W W.heap.size E0 := by
    rw [laid_same] at hL
    rw [MakeChecks.laidMetH_plain _ _ _ (by kernel_rfl)] at hL
    exact env_of hL
  have hk0 := h0
  have hk1 := h1
  have hk2 := h2
  obtain ⟨es0, hes0, hel0⟩ := rd_list h0 (okWide_slice Tryz.underlying22 (hval 0 22 v0 rfl rfl))
  obtain ⟨c1, rfl, hc1⟩ : ∃ l : List UInt8, v1 = .string (B l) ∧ l.length ≤ 9223372036854775807 := rd_text h1 (hval 1 9 v1 rfl rfl)
  obtain ⟨n2, rfl, -, -, wf2⟩ := open_int Tryz.underlying3 (hval 2 3 v2 rfl rfl) h2
  have hlt : ∀ x ∈ ((p0 ++ (p1 ++ (p2 ++ [])))) ++ q, x.block < W.heap.size := fun x hx => by simpa using hW'.lt x (by simpa using hx)
  refine (exactContent_any es0 c1 n2 v0 W hE hes0 hel0 hc1).mono fun e W' ⟨he, hb⟩ => ?_
  subst he
  have hV' := Below.trodVars laidOut hb varsOk hV
  obtain ⟨g1, g2, g3, g4, rfl⟩ := four_of_vars hV
  refine ⟨_, rfl, _, _, _, [], p0 ++ (p1 ++ (p2 ++ ([]))), q, hW', trodAll_cons_mk (shut_bool Tryz.underlying4 true) trodAll_mk0, ?_, hV', hb.frame _, fun h => by cases h⟩
  exact trodAll_cons_mk (Below.trod laidOut (by kernel_rfl) (of_decide_eq_true (by kernel_rfl)) hk0 hb (fun x hx => hlt x (by simp [hx]))) (trodAll_cons_mk (Below.trod laidOut (by kernel_rfl) (of_decide_eq_true (by kernel_rfl)) hk1 hb (fun x hx => hlt x (by simp [hx]))) (trodAll_cons_mk (Below.trod laidOut (by kernel_rfl) (of_decide_eq_true (by kernel_rfl)) hk2 hb (fun x hx => hlt x (by simp [hx]))) (trodAll_mk0)))
set_option maxRecDepth 100000 in
theorem lifted (os : Os) (started : os.Started) (H : Type) (enc : TypeId × Value → H) :
    ReturnsInHanded {} Tryz.checked os 8 .any (fun w args => (Rows.fnExactContentSpec.pre enc Tryz.prog Tryz.f8 Rows.fnExactContentRow.domain false w args ∧ laidMetH Tryz.prog Rows.fnExactContentRow.laid w) ∧ sizedMet enc Tryz.prog Tryz.f8 (OpenSpec.ofChange Rows.fnExactContentSpec) false w args)
      (Rows.fnExactContentSpec.post enc Tryz.prog Tryz.f8 false true false false) := by
  refine returnsInHanded_of_change_and (C := Tryz.checked) (X := fun w _ => laidMetH Tryz.prog Rows.fnExactContentRow.laid w) (fun _ _ _ hh h => h.of_heap hh) own started (by kernel_rfl) Tryz.func8
    (ChangeSpec.witness_shaped (enc := enc) (C := Tryz.checked) (os := os) (X := fun w _ => laidMetH Tryz.prog Rows.fnExactContentRow.laid w) false (World.laidAll Tryz.prog os Rows.fnExactContentRow.laid) #[.slice none 0 0, .string ByteArray.empty, .int .i64 0] 8 (World.laidAll_os _ _ _)
      (World.shaped_of_ZipB (by kernel_rfl) (by kernel_rfl)) (by kernel_rfl) (by kernel_rfl) (by kernel_rfl)
      (by rw [MakeChecks.laidMetH_plain _ _ _ (by kernel_rfl)]; exact laidMet_laidAll _ (by kernel_rfl) (by kernel_rfl))) ?_
  intro W base args ds gs before hval hW _ _ hL _
  exact contract H enc W base args ds gs before hval hW hL
set_option maxRecDepth 100000 in
set_option maxHeartbeats 8000000 in
theorem closed : joinedFacts Tryz.pinned.checked.prog 8 Tryz.f8 Rows.fnExactContentSpec Rows.fnExactContentRow = true := by
  unfold joinedFacts
  rw [show Tryz.pinned.checked.prog = Tryz.prog from rfl, head_enter, head_final, head_make]
  repeat' (with_reducible refine Bool.and_eq_true_iff.2 ⟨?_, ?_⟩)
  all_goals as_aux_lemma => kernel_rfl
theorem wrapped : Tryz.f8.isWrapper Tryz.pinned.checked.prog Rows.fnExactContentRow.wrapper Rows.fnExactContentRow.mainSum := by unfold Func.isWrapper; first | (rw [if_pos (by decide +kernel)]; kernel_rfl) | (rw [if_neg (by decide +kernel)]; exact ⟨rfl, rfl⟩)
set_option maxRecDepth 100000 in
theorem said : Rows.FnExactContentSaid :=
  OpenClaim.holds_of_wide 8 Tryz.f8 rfl rfl rfl rfl rfl rfl rfl ⟨rfl, rfl, rfl, rfl, rfl⟩ rfl rfl rfl rfl rfl (by kernel_rfl) Tryz.func8 closed
    (of_decide_eq_true (by kernel_rfl)) wrapped
    (fun os started H enc _ => lifted os started H enc)
/-- No parameter wants a stand-in. -/
theorem plain (f : FuncId) (fn : Func) (hf : Tryz.pinned.checked.prog.funcNamed "loop.example/pub-ziparchives/laws.FnExactContent" = some f) (hfn : Tryz.pinned.checked.prog.funcs[f]? = some fn) :
    true = Tryz.pinned.checked.prog.looks [] ∧ ∀ (j : Nat) t, fn.params[j]? = some t → Tryz.pinned.checked.prog.wantsStandIn t = false := by
  obtain rfl : f = 8 := Option.some.inj ((show Tryz.prog.funcNamed "loop.example/pub-ziparchives/laws.FnExactContent" = some 8 by kernel_rfl).symm.trans hf) |>.symm
  obtain rfl : fn = Tryz.f8 := (Option.some.inj (Tryz.func8.symm.trans hfn)).symm
  refine ⟨by kernel_rfl, fun j t ht => ?_⟩
  rw [Tryz.params8] at ht
  have hm : t ∈ [22, 9, 3] := by simpa using Array.mem_of_getElem? ht
  have hall : ([22, 9, 3].all fun u => !Tryz.prog.wantsStandIn u) = true := by kernel_rfl
  exact (show Tryz.prog.wantsStandIn t = false by simpa using List.all_eq_true.1 hall t hm)
set_option maxRecDepth 100000 in
/-- THE CARD. -/
theorem card : Rows.FnExactContentCardSaid :=
  Claim7.holds_tied_plain_at .later [] _ _ _ _ said (fun _ h => by cases h) (by kernel_rfl) (fun _ h => by cases h) fnExactContent_row_tie rfl ⟨rfl, rfl⟩ head_main rfl plain (by kernel_rfl)
end fnExactContent
end Go.Proofs.YtiipmnaonidojaaGreatDoor
