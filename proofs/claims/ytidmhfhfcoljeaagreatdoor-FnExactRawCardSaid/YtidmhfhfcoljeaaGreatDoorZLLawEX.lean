/- What is proved: for every list of entries, every comment and every index, FnExactRaw returns true and leaves its arguments as they read: the bytes of a file are read as they are, whatever method, size and checksum are told. Conditions: none beyond the row's own: the arguments can be read as data, and the package variables that the row lists hold what the program's text lays (the card ties that). -/
import Derived.Test.YtidmhfhfcoljeaaGreatDoorZV
import Derived.Test.YtidmhfhfcoljeaaGreatDoorZR
namespace Go.Proofs.Zip
open Go Go.RowKit
set_option maxRecDepth 100000 in
set_option maxHeartbeats 4000000 in
theorem exactRaw_any {N0 : Nat} {E0 : Errs} (es : List E) (c : List UInt8) (k : Int) (v : Value) (w : World) (hE : Env w N0 E0) (hv : IsList w v es) (hlen : es.length ≤ 9223372036854775807) (hc : c.length ≤ 9223372036854775807) (hnil : Hid (∀ n cap, v = .slice none n cap → cap = 0)) :
    Calls Tryz.prog 5 #[v, .string (B c), .int .i64 k] w fun e w' => e = .returned (.bool true) ∧ Below w.heap.size w w' := by
  have HFT := Lib.hid (fits1_any es v w hv hlen)
  have HE := Lib.hid hE
  have HV := Lib.hid hv
  clear hE hv
  go_enter Tryz.func5, Tryz.ntmps5
  go_wp2_with fail
  refine HFT.out.mono ?_
  rintro e w1 ⟨rfl, hb1⟩
  have HB1 := Lib.hid hb1
  clear hb1 HFT
  cases hft : fits1 es
  · go_wp2
    go_ret
    exact ⟨rfl, HB1.out⟩
  obtain ⟨hl1, hl2⟩ := fits1_small hft
  have HL2 := Lib.hid hl2
  clear hft hl2
  by_cases hcl : c.length ≤ 2147483647
  · have hcl' : ¬ (2147483647 : Int) < c.length := by omega
    have HV1 := Lib.hid (HV.out.below HB1.out)
    have HVA : Hid (∀ o, IsList (w1.alloc o) v es) := Lib.hid fun o => HV1.out.below ((Below.refl w1.heap.size w1).alloc (Nat.le_refl _) o)
    go_wp2_with (at_builtin; refine wpList_app_list rfl _ _ rfl w1.heap.size (.slice (some ⟨w1.heap.size, 0, none⟩) 0 0) rfl ⟨rfl, .inr ⟨_, 0, _, rfl, Nat.le_refl _, heap_alloc_last _ _, Nat.le_refl _, by decide, rfl, rfl⟩⟩ (by simp) es v rfl (HVA.out _) hnil.out hl1 ?_)
    intro u w2 hown hfr
    obtain ⟨vx, vcap, hvf⟩ := own_form hown
    subst hvf
    have hb2 : Below w.heap.size w w2 := HB1.out.trans (((Below.refl w1.heap.size w1).alloc (Nat.le_refl _) (.cells #[] 38)).trans (hfr.below (by simp) (fun i hi e => by simp [Value.ownBlock] at e; omega)) |>.mono HB1.out.size)
    have HB2 := Lib.hid hb2
    have HOWN := Lib.hid hown
    have hz1 := HB1.out.size
    clear hown hfr hb2 HVA HV1 HV
    by_cases hk0 : k < 0
    · go_wp2
      go_ret
      exact ⟨rfl, HB2.out⟩
    obtain ⟨kk, rfl⟩ := Int.eq_ofNat_of_zero_le (by omega : 0 ≤ k)
    clear hk0
    by_cases hk1 : kk < es.length
    · have hk1' : ¬ (es.length : Int) ≤ (kk : Int) := by omega
      go_wp2
      go_loopw [31] (fun tj wr => ∃ j : Nat, tj = .int .i64 j ∧ j ≤ es.length ∧ Hid (wr.ownsRow w1.heap.size 38 15 (.slice vx es.length vcap) es.length (rows (packL es j))) ∧ Hid (Below w.heap.size w wr)) (fun tj _ => es.length - (intOf tj).toNat)
      case atStart => exact ⟨0, rfl, Nat.zero_le _, Lib.hid (by rw [packL_zero]; exact HOWN.out), HB2⟩
      case round =>
        obtain ⟨j, rfl, hj, hO, hW⟩ := hrel
        by_cases hlt : j < es.length
        · have hpl := packL_length es j hj
          have hO2 := hO.out
          rw [← hpl] at hO2
          obtain ⟨g, cap, hue, hgb, hgl, hfz, hr, hset⟩ := ownRows_at hO2 (by omega : j < (packL es j).length)
          rw [packL_get es j hlt] at hr hset
          have hset2 := hset 11 (.int .i64 es[j].data.length) (packE es[j]) (by decide) rfl
          rw [← packL_succ es j hlt, packL_length es (j + 1) hlt, hpl] at hset2
          have hdl := HL2.out es[j] (List.getElem_mem hlt)
          generalize es[j] = e at hr hset2 hdl
          simp only [Value.slice.injEq] at hue
          obtain ⟨rfl, _, rfl⟩ := hue
          have c14 : wr.cell? ⟨g, j * 15 + 14, none⟩ = some (.string (B e.data)) := hr 14 _ rfl
          have c11 : wr.cell? ⟨g, j * 15 + 11, none⟩ = some (.int .i64 e.hdr.packed) := hr 11 _ rfl
          have f11 : wr.frozen? ⟨g, j * 15 + 11, none⟩ = false := hfz _
          have HSET := Lib.hid hset2
          have HGB := Lib.hid hgb
          clear hset hset2 hr hfz hgb hO2 hpl hO hgl
          go_wp2
          exact ⟨⟨j + 1, by go_num, by omega, Lib.hid HSET.out, Lib.hid (hW.out.setCell (by show w.heap.size ≤ g; have := HGB.out; omega) _)⟩, by simp [intOf]; omega⟩
        · obtain rfl : j = es.length := by omega
          obtain ⟨es', hes'⟩ : ∃ l, l = es.map packE := ⟨_, rfl⟩
          have hlen' : es'.length = es.length := by rw [hes']; simp
          have hO2 := hO.out
          rw [packL_all, ← hes', ← hlen'] at hO2
          have HLI := Lib.hid (isList_own hO2)
          rw [hlen'] at HLI
          have HES := Lib.hid hes'
          have HLE := Lib.hid hlen'
          clear hO2 hO hes' HOWN HB2 hlen'
          have HG := Lib.hid (good_any es' c _ wr HLI.out (by have := HLE.out; omega) (by omega))
          go_wp2_with fail
          refine HG.out.mono ?_
          rintro r w4 ⟨rfl, hb4⟩
          have HLI4 := Lib.hid (HLI.out.below hb4)
          have HB4 := Lib.hid (below_up hW.out hb4)
          clear hb4 HG HLI
          cases hgood : goodB es' c
          · go_wp2
            go_ret
            exact ⟨rfl, HB4.out⟩
          have HGOOD := Lib.hid hgood
          clear hgood
          have HAR := Lib.hid (archive_good HGOOD.out _ w4 HLI4.out)
          go_wp2_with fail
          refine HAR.out.mono ?_
          rintro r w5 ⟨rfl, hb5⟩
          have HB5 := Lib.hid (below_up HB4.out hb5)
          have HLI5 := Lib.hid (HLI4.out.below hb5)
          clear hb5 HAR HLI4
          have hk2 : kk < es'.length := by have := HLE.out; omega
          have HRW := Lib.hid (raw_good (N0 := N0) (E0 := E0) (w := w5) (HE.out.below HB5.out) HGOOD.out hk2 (by
            have hmem : es'[kk] ∈ es.map packE := by rw [← HES.out]; exact List.getElem_mem hk2
            obtain ⟨x, hx, hx2⟩ := List.mem_map.1 hmem
            rw [← hx2]; rfl))
          obtain ⟨b, off, cap, hue, hblt, hr⟩ := HLI5.out.at hk2
          generalize es'[kk] = e at hr HRW
          rw [HLE.out] at hue
          simp only [Value.slice.injEq] at hue
          obtain ⟨rfl, _, rfl⟩ := hue
          have HR := Lib.hid hr
          clear hr
          go_wp2_with fail
          refine HRW.out.mono ?_
          rintro r w6 ⟨rfl, hb6⟩
          have HB6 := Lib.hid (below_up HB5.out hb6.out)
          have hr6 := rangeAt_below hb6.out HR.out hblt
          have hcd : w6.cell? ⟨b, off + kk * 15 + 14, none⟩ = some (.string (B e.data)) := hr6 14 _ rfl
          have HRE := Lib.hid (reads_any (E0 := E0) (N0 := N0) w6 (HE.out.below HB6.out))
          clear hr6 hb6 HRW HR
          go_wp2_with (first | (go_at_call 14; refine HRE.out.mono ?_; rintro r w8 ⟨rfl, hb8⟩))
          all_goals (
            go_ret
            exact ⟨rfl, below_up HB6.out hb8⟩)
    · have hk1' : (es.length : Int) ≤ (kk : Int) := by omega
      go_wp2
      go_ret
      exact ⟨rfl, HB2.out⟩
  · have hcl' : (2147483647 : Int) < c.length := by omega
    go_wp2
    go_ret
    exact ⟨rfl, HB1.out⟩
end Go.Proofs.Zip
namespace Go.Proofs.YtidmhfhfcoljeaaGreatDoor
open Go Go.ChangeShapes Go.WideShapes Go.ChangeAt Go.RowKit Go.Proofs.Zip Go.Deep
namespace fnExactRaw
abbrev fid : Nat := 5
theorem laid_same : Rows.fnExactRawRow.laid = laidL := rfl
set_option maxRecDepth 100000 in
/-- What the walk gives, for every input that can be read. -/
theorem contract (H : Type) (enc : TypeId × Value → H) (W : World) (base : Nat) (args : Array Value) (ds gs : List (DataW H)) (before : List MemPlace)
    (hval : ∀ (j : Nat) t v, Tryz.f5.params[j]? = some t → args[j]? = some v → Value.okWide Tryz.prog W .any base t v)
    (hW : DataW.Whole enc Tryz.prog Tryz.f5.params.toList Rows.fnExactRawSpec.vars false W args.toList ds gs before) (hL : laidMetH Tryz.prog Rows.fnExactRawRow.laid W) :
    Calls Tryz.prog 5 args W fun e W' => ∃ v, e = .returned v ∧ Rows.fnExactRawSpec.post enc Tryz.prog Tryz.f5 false true false false W args v W' := by
  have hW' := hW
  obtain ⟨p, q, hA0, hV, rfl, _, _⟩ := hW
  have hA : DataW.TrodAll enc Tryz.prog W 0 (fun _ => true) true Tryz.f5.params.toList args.toList ds p := hA0
  rw [Tryz.params5] at hA hval
  obtain ⟨v0, vs0, d0, ds0, p0, q0, hargs, rfl, rfl, h0, r0⟩ := trodAll_cons hA
  obtain ⟨v1, vs1, d1, ds1, p1, q1, rfl, rfl, rfl, h1, r1⟩ := trodAll_cons r0
  obtain ⟨v2, vs2, d2, ds2, p2, q2, rfl, rfl, rfl, h2, r2⟩ := trodAll_cons r1
  obtain ⟨rfl, rfl, rfl⟩ := trodAll_nil r2
  obtain rfl : args = #[v0, v1, v2] := by cases args; simp_all
  obtain ⟨E0, hE⟩ : ∃ E0, Env W W.heap.size E0 := by
    rw [laid_same] at hL
    rw [MakeChecks.laidMetH_plain _ _ _ (by kernel_rfl)] at hL
    exact env_of hL
  have hk0 := h0
  have hk1 := h1
  have hk2 := h2
  obtain ⟨es0, hes0, hel0⟩ := rd_list h0 (okWide_slice Tryz.underlying22 (hval 0 22 v0 rfl rfl))
  obtain ⟨c1, rfl, hc1⟩ : ∃ l : List UInt8, v1 = .string (B l) ∧ l.length ≤ 9223372036854775807 := rd_text h1 (hval 1 9 v1 rfl rfl)
  obtain ⟨n2, rfl, -, -, wf2⟩ := open_int Tryz.underlying3 (hval 2 3 v2 rfl rfl) h2
  have hlt : ∀ x ∈ ((p0 ++ (p1 ++ (p2 ++ [])))) ++ q, x.block < W.heap.size := fun x hx => by simpa using hW'.lt x (by simpa using hx)
  refine (exactRaw_any es0 c1 n2 v0 W hE hes0 hel0 hc1 (Lib.hid (okWide_nil Tryz.underlying22 (hval 0 22 v0 rfl rfl)))).mono fun e W' ⟨he, hb⟩ => ?_
  subst he
  have hV' := Below.trodVars laidOut hb varsOk hV
  obtain ⟨g1, g2, g3, g4, rfl⟩ := four_of_vars hV
  refine ⟨_, rfl, _, _, _, [], p0 ++ (p1 ++ (p2 ++ ([]))), q, hW', trodAll_cons_mk (shut_bool Tryz.underlying4 true) trodAll_mk0, ?_, hV', hb.frame _, fun h => by cases h⟩
  exact trodAll_cons_mk (Below.trod laidOut (by kernel_rfl) (of_decide_eq_true (by kernel_rfl)) hk0 hb (fun x hx => hlt x (by simp [hx]))) (trodAll_cons_mk (Below.trod laidOut (by kernel_rfl) (of_decide_eq_true (by kernel_rfl)) hk1 hb (fun x hx => hlt x (by simp [hx]))) (trodAll_cons_mk (Below.trod laidOut (by kernel_rfl) (of_decide_eq_true (by kernel_rfl)) hk2 hb (fun x hx => hlt x (by simp [hx]))) (trodAll_mk0)))
set_option maxRecDepth 100000 in
theorem lifted (os : Os) (started : os.Started) (H : Type) (enc : TypeId × Value → H) :
    ReturnsInHanded {} Tryz.checked os 5 .any (fun w args => (Rows.fnExactRawSpec.pre enc Tryz.prog Tryz.f5 Rows.fnExactRawRow.domain false w args ∧ laidMetH Tryz.prog Rows.fnExactRawRow.laid w) ∧ sizedMet enc Tryz.prog Tryz.f5 (OpenSpec.ofChange Rows.fnExactRawSpec) false w args)
      (Rows.fnExactRawSpec.post enc Tryz.prog Tryz.f5 false true false false) := by
  refine returnsInHanded_of_change_and (C := Tryz.checked) (X := fun w _ => laidMetH Tryz.prog Rows.fnExactRawRow.laid w) (fun _ _ _ hh h => h.of_heap hh) own started (by kernel_rfl) Tryz.func5
    (ChangeSpec.witness_shaped (enc := enc) (C := Tryz.checked) (os := os) (X := fun w _ => laidMetH Tryz.prog Rows.fnExactRawRow.laid w) false (World.laidAll Tryz.prog os Rows.fnExactRawRow.laid) #[.slice none 0 0, .string ByteArray.empty, .int .i64 0] 8 (World.laidAll_os _ _ _)
      (World.shaped_of_ZipB (by kernel_rfl) (by kernel_rfl)) (by kernel_rfl) (by kernel_rfl) (by kernel_rfl)
      (by rw [MakeChecks.laidMetH_plain _ _ _ (by kernel_rfl)]; exact laidMet_laidAll _ (by kernel_rfl) (by kernel_rfl))) ?_
  intro W base args ds gs before hval hW _ _ hL _
  exact contract H enc W base args ds gs before hval hW hL
set_option maxRecDepth 100000 in
set_option maxHeartbeats 8000000 in
theorem closed : joinedFacts Tryz.pinned.checked.prog 5 Tryz.f5 Rows.fnExactRawSpec Rows.fnExactRawRow = true := by
  unfold joinedFacts
  rw [show Tryz.pinned.checked.prog = Tryz.prog from rfl, head_enter, head_final, head_make]
  repeat' (with_reducible refine Bool.and_eq_true_iff.2 ⟨?_, ?_⟩)
  all_goals as_aux_lemma => kernel_rfl
theorem wrapped : Tryz.f5.isWrapper Tryz.pinned.checked.prog Rows.fnExactRawRow.wrapper Rows.fnExactRawRow.mainSum := by unfold Func.isWrapper; first | (rw [if_pos (by decide +kernel)]; kernel_rfl) | (rw [if_neg (by decide +kernel)]; exact ⟨rfl, rfl⟩)
set_option maxRecDepth 100000 in
theorem said : Rows.FnExactRawSaid :=
  OpenClaim.holds_of_wide 5 Tryz.f5 rfl rfl rfl rfl rfl rfl rfl ⟨rfl, rfl, rfl, rfl, rfl⟩ rfl rfl rfl rfl rfl (by kernel_rfl) Tryz.func5 closed
    (of_decide_eq_true (by kernel_rfl)) wrapped
    (fun os started H enc _ => lifted os started H enc)
/-- No parameter wants a stand-in. -/
theorem plain (f : FuncId) (fn : Func) (hf : Tryz.pinned.checked.prog.funcNamed "loop.example/pub-ziparchives/laws.FnExactRaw" = some f) (hfn : Tryz.pinned.checked.prog.funcs[f]? = some fn) :
    true = Tryz.pinned.checked.prog.looks [] ∧ ∀ (j : Nat) t, fn.params[j]? = some t → Tryz.pinned.checked.prog.wantsStandIn t = false := by
  obtain rfl : f = 5 := Option.some.inj ((show Tryz.prog.funcNamed "loop.example/pub-ziparchives/laws.FnExactRaw" = some 5 by kernel_rfl).symm.trans hf) |>.symm
  obtain rfl : fn = Tryz.f5 := (Option.some.inj (Tryz.func5.symm.trans hfn)).symm
  refine ⟨by kernel_rfl, fun j t ht => ?_⟩
  rw [Tryz.params5] at ht
  have hm : t ∈ [22, 9, 3] := by simpa using Array.mem_of_getElem? ht
  have hall : ([22, 9, 3].all fun u => !Tryz.prog.wantsStandIn u) = true := by kernel_rfl
  exact (show Tryz.prog.wantsStandIn t = false by simpa using List.all_eq_true.1 hall t hm)
set_option maxRecDepth 100000 in
/-- THE CARD. -/
theorem card : Rows.FnExactRawCardSaid :=
  Claim7.holds_tied_plain_at .later [] _ _ _ _ said (fun _ h => by cases h) (by kernel_rfl) (fun _ h => by cases h) fnExactRaw_row_tie rfl ⟨rfl, rfl⟩ head_main rfl plain (by kernel_rfl)
end fnExactRaw
end Go.Proofs.YtidmhfhfcoljeaaGreatDoor
