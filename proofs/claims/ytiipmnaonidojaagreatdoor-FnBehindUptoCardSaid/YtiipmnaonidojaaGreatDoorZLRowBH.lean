/- PROVED: 'laws.FnBehind' (what stands behind an archive, of at most 1000 bytes, is not looked at) answers true for every list of entries, every comment and every text behind, of bulk at most 1048576 together (the second form, Upto: the first is false by size alone).
   CONDITIONS: none but the second form's own bound and what the given row itself states (the package's variables as the program's text lays them). -/
import Derived.Test.YtiipmnaonidojaaGreatDoorZX
import Derived.Test.YtiipmnaonidojaaGreatDoorZR
namespace Go.Proofs.YtiipmnaonidojaaGreatDoor
open Go Go.ChangeShapes Go.WideShapes Go.ChangeAt Go.RowKit Go.Proofs.Zip Go.Deep
namespace fnBehind
abbrev fid : Nat := 10
theorem laid_same : Rows.fnBehindRow.laid = laidL := rfl
set_option maxRecDepth 100000 in
/-- What the walk gives, for every input that can be read. -/
theorem contract (H : Type) (enc : TypeId × Value → H) (W : World) (base : Nat) (args : Array Value) (ds gs : List (DataW H)) (before : List MemPlace)
    (hval : ∀ (j : Nat) t v, Tryz.f10.params[j]? = some t → args[j]? = some v → Value.okWide Tryz.prog W .any base t v)
    (hW : DataW.Whole enc Tryz.prog Tryz.f10.params.toList Rows.fnBehindSpec.vars false W args.toList ds gs before) (hL : laidMetH Tryz.prog Rows.fnBehindRow.laid W) (hbk0 : Rows.uptoSmall H (ds ++ gs) = true) :
    Calls Tryz.prog 10 args W fun e W' => ∃ v, e = .returned v ∧ Rows.fnBehindSpec.post enc Tryz.prog Tryz.f10 false true false false W args v W' := by
  have hW' := hW
  have hbk : Rows.uptoBulkAll (ds ++ gs) ≤ 1048576 := of_decide_eq_true hbk0
  clear hbk0
  obtain ⟨p, q, hA0, hV, rfl, _, _⟩ := hW
  have hA : DataW.TrodAll enc Tryz.prog W 0 (fun _ => true) true Tryz.f10.params.toList args.toList ds p := hA0
  rw [Tryz.params10] at hA hval
  obtain ⟨v0, vs0, d0, ds0, p0, q0, hargs, rfl, rfl, h0, r0⟩ := trodAll_cons hA
  obtain ⟨v1, vs1, d1, ds1, p1, q1, rfl, rfl, rfl, h1, r1⟩ := trodAll_cons r0
  obtain ⟨v2, vs2, d2, ds2, p2, q2, rfl, rfl, rfl, h2, r2⟩ := trodAll_cons r1
  obtain ⟨rfl, rfl, rfl⟩ := trodAll_nil r2
  obtain rfl : args = #[v0, v1, v2] := by cases args; simp_all
  obtain ⟨E0, hE⟩ : ∃ E0, Env W W.heap.size E0 := by
    rw [laid_same] at hL
    rw [MakeChecks.laidMetH_plain _ _ _ (by kernel_rfl)] at hL
    exact env_of hL
  have hk0 := h0
  have hk1 := h1
  have hk2 := h2
  obtain ⟨es0, hes0, len0, bulk0⟩ := rd_listB h0 (okWide_slice Tryz.underlying22 (hval 0 22 v0 rfl rfl))
  obtain ⟨c1, rfl, hc1⟩ : ∃ l : List UInt8, v1 = .string (B l) ∧ l.length ≤ 9223372036854775807 := rd_text h1 (hval 1 9 v1 rfl rfl)
  obtain ⟨c2, rfl, hc2⟩ : ∃ l : List UInt8, v2 = .string (B l) ∧ l.length ≤ 9223372036854775807 := rd_text h2 (hval 2 9 v2 rfl rfl)
  have hlt : ∀ x ∈ ((p0 ++ (p1 ++ (p2 ++ [])))) ++ q, x.block < W.heap.size := fun x hx => by simpa using hW'.lt x (by simpa using hx)
  simp only [List.cons_append, Rows.uptoBulkAll] at hbk
  refine (behind_any es0 c1 c2 v0 W hE hes0 (by omega) hc1 hc2 (by have := filesL_bulk es0; omega) (by have := dirL_bulk es0 0; omega)).mono fun e W' ⟨he, hb⟩ => ?_
  subst he
  have hV' := Below.trodVars laidOut hb varsOk hV
  obtain ⟨g1, g2, g3, g4, rfl⟩ := four_of_vars hV
  refine ⟨_, rfl, _, _, _, [], p0 ++ (p1 ++ (p2 ++ ([]))), q, hW', trodAll_cons_mk (shut_bool Tryz.underlying4 true) trodAll_mk0, ?_, hV', hb.frame _, fun h => by cases h⟩
  exact trodAll_cons_mk (Below.trod laidOut (by kernel_rfl) (of_decide_eq_true (by kernel_rfl)) hk0 hb (fun x hx => hlt x (by simp [hx]))) (trodAll_cons_mk (Below.trod laidOut (by kernel_rfl) (of_decide_eq_true (by kernel_rfl)) hk1 hb (fun x hx => hlt x (by simp [hx]))) (trodAll_cons_mk (Below.trod laidOut (by kernel_rfl) (of_decide_eq_true (by kernel_rfl)) hk2 hb (fun x hx => hlt x (by simp [hx]))) (trodAll_mk0)))
/-- An input that fits. -/
noncomputable abbrev wit (os : Os) : World := ((World.laidAll Tryz.prog os Rows.fnBehindUptoRow.laid).forCall (fun _ _ => 0) ⟨#[], #[.slice none 0 0, .string ByteArray.empty, .string ByteArray.empty], []⟩)
set_option maxRecDepth 100000 in
theorem wit_reads (os : Os) {H : Type} (enc : TypeId × Value → H) : (DataW.whole enc Tryz.prog (wit os).memory Tryz.f10.params.toList (Rows.OpenSpec.upto Rows.fnBehindSpec).vars false (#[.slice none 0 0, .string ByteArray.empty, .string ByteArray.empty] : Array Value).toList 8).isSome = true := by kernel_rfl
set_option maxRecDepth 100000 in
theorem wit_small (os : Os) {H : Type} (enc : TypeId × Value → H) : ((DataW.whole enc Tryz.prog (wit os).memory Tryz.f10.params.toList (Rows.OpenSpec.upto Rows.fnBehindSpec).vars false (#[.slice none 0 0, .string ByteArray.empty, .string ByteArray.empty] : Array Value).toList 8).map fun x => Rows.uptoSmall H (x.1 ++ x.2.1)) = some true := by kernel_rfl
set_option maxRecDepth 100000 in
theorem wit_row (os : Os) {H : Type} (enc : TypeId × Value → H) : (Rows.OpenSpec.upto Rows.fnBehindSpec).preRow enc Tryz.prog Tryz.f10 Rows.fnBehindUptoRow.domain false Rows.fnBehindUptoRow.laid (wit os).memory #[.slice none 0 0, .string ByteArray.empty, .string ByteArray.empty] := by
  obtain ⟨x, hx⟩ := Option.isSome_iff_exists.1 (wit_reads os enc)
  have hs := wit_small os enc
  rw [hx] at hs
  exact OpenSpec.preRow_of_cond 8 hx rfl (fun k hk => by cases hk; exact Option.some.inj hs) (by kernel_rfl)
    (by rw [MakeChecks.laidMetH_plain _ _ _ (by kernel_rfl)]; exact laidMet_laidAll _ (by kernel_rfl) (by kernel_rfl))
set_option maxRecDepth 100000 in
theorem lifted (os : Os) (started : os.Started) (H : Type) (enc : TypeId × Value → H) (F : Stop.Interp) :
    ReturnsInHanded {} Tryz.checked os 10 .any ((Rows.OpenSpec.upto Rows.fnBehindSpec).preRow enc Tryz.prog Tryz.f10 Rows.fnBehindUptoRow.domain false Rows.fnBehindUptoRow.laid) (((Rows.OpenSpec.upto Rows.fnBehindSpec).at F).post enc Tryz.prog Tryz.f10 false true false false) := by
  refine returnsInHanded_of_row (C := Tryz.checked) (s := Rows.OpenSpec.upto Rows.fnBehindSpec) own started (by kernel_rfl) Tryz.func10
    ⟨World.laidAll Tryz.prog os Rows.fnBehindUptoRow.laid, fun _ _ => 0, ⟨#[], #[.slice none 0 0, .string ByteArray.empty, .string ByteArray.empty], []⟩, World.laidAll_os _ _ _, World.shaped_of_ZipB (by kernel_rfl) (by kernel_rfl), rfl, ?_, wit_row os enc, ?_⟩ ?_
  · exact (Input.okWide_of_okWideB (by kernel_rfl)).2
  · simp only [Assume.holds]
    exact ⟨by simp, by simp, fun _ => Modest.zero, by simp, by simp⟩
  · intro W base args ds gs before hval hW _ hcond _ hL _ _
    exact contract H enc W base args ds gs before hval hW hL (hcond _ rfl)
set_option maxRecDepth 100000 in
set_option maxHeartbeats 8000000 in
theorem closed : joinedFacts Tryz.pinned.checked.prog 10 Tryz.f10 (Rows.OpenSpec.upto Rows.fnBehindSpec).bare Rows.fnBehindUptoRow = true := by
  unfold joinedFacts
  rw [show Tryz.pinned.checked.prog = Tryz.prog from rfl, head_enter, head_final, head_make]
  repeat' (with_reducible refine Bool.and_eq_true_iff.2 ⟨?_, ?_⟩)
  all_goals as_aux_lemma => kernel_rfl
theorem wrapped : Tryz.f10.isWrapper Tryz.pinned.checked.prog Rows.fnBehindUptoRow.wrapper Rows.fnBehindUptoRow.mainSum := by unfold Func.isWrapper; first | (rw [if_pos (by decide +kernel)]; kernel_rfl) | (rw [if_neg (by decide +kernel)]; exact ⟨rfl, rfl⟩)
set_option maxRecDepth 100000 in
theorem said : Rows.FnBehindUptoSaid :=
  OpenClaim.holds_of_cond 10 Tryz.f10 rfl rfl rfl rfl rfl rfl rfl ⟨rfl, rfl, rfl, rfl, rfl⟩ rfl rfl rfl rfl rfl (by kernel_rfl) Tryz.func10 closed
    (of_decide_eq_true (by kernel_rfl)) wrapped
    (fun os started H enc _ F => by rw [OpenClaim.pre_eq_preRow]; exact lifted os started H enc F)
/-- No parameter wants a stand-in. -/
theorem plain (f : FuncId) (fn : Func) (hf : Tryz.pinned.checked.prog.funcNamed "loop.example/pub-ziparchives/laws.FnBehind" = some f) (hfn : Tryz.pinned.checked.prog.funcs[f]? = some fn) :
    true = Tryz.pinned.checked.prog.looks [] ∧ ∀ (j : Nat) t, fn.params[j]? = some t → Tryz.pinned.checked.prog.wantsStandIn t = false := by
  obtain rfl : f = 10 := Option.some.inj ((show Tryz.prog.funcNamed "loop.example/pub-ziparchives/laws.FnBehind" = some 10 by kernel_rfl).symm.trans hf) |>.symm
  obtain rfl : fn = Tryz.f10 := (Option.some.inj (Tryz.func10.symm.trans hfn)).symm
  refine ⟨by kernel_rfl, fun j t ht => ?_⟩
  rw [Tryz.params10] at ht
  have hm : t ∈ [22, 9, 9] := by simpa using Array.mem_of_getElem? ht
  have hall : ([22, 9, 9].all fun u => !Tryz.prog.wantsStandIn u) = true := by kernel_rfl
  exact (show Tryz.prog.wantsStandIn t = false by simpa using List.all_eq_true.1 hall t hm)
set_option maxRecDepth 100000 in
/-- THE CARD. -/
theorem card : Rows.FnBehindUptoCardSaid :=
  Claim7.holds_tied_plain_at .later [] _ _ _ _ said (fun _ h => by cases h) (by kernel_rfl) (fun _ h => by cases h) fnBehindUpto_row_tie rfl ⟨rfl, rfl⟩ head_main rfl plain (by kernel_rfl)
end fnBehind
end Go.Proofs.YtiipmnaonidojaaGreatDoor
