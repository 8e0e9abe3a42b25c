/- What is proved: for every text, FnNoEnd returns true and leaves its argument as it reads: a text in which no mark of an end stands is not read as an archive. Conditions: none beyond the row's own: the argument can be read as data, and the package variables that the row lists hold what the program's text lays (the card ties that). -/
import Derived.Test.YtiipmnaonidojaaGreatDoorZT
import Derived.Test.YtiipmnaonidojaaGreatDoorZQ
import Derived.Test.YtiipmnaonidojaaGreatDoorZB
import Derived.Test.YtiipmnaonidojaaGreatDoorZR
namespace Go.Proofs.Zip
open Go Go.RowKit
set_option maxRecDepth 100000 in
set_option maxHeartbeats 1000000 in
theorem noEnd_any {N0 : Nat} {E0 : Errs} (s : List UInt8) (w : World) (hE : Env w N0 E0) (hs : s.length ≤ 9223372036854775807) :
    Calls Tryz.prog 14 #[.string (B s)] w fun e w' => e = .returned (.bool true) ∧ Below w.heap.size w w' := by
  have HE := Lib.hid hE
  clear hE
  go_enter Tryz.func14, Tryz.ntmps14
  by_cases hl : s.length ≤ 2147483647
  · have hl' : ¬ (2147483647 : Int) < s.length := by omega
    have HEN := Lib.hid (ends_any s w (by omega))
    obtain ⟨n, hn⟩ : ∃ n, n = endsL s := ⟨_, rfl⟩
    rw [← hn] at HEN
    have HN := Lib.hid hn
    clear hn
    cases n with
    | zero =>
      have HR := Lib.hid (readNoEnd_any (N0 := N0) (E0 := E0) s w HE.out (by omega) (found_none HN.out.symm))
      go_wp2_with (first
        | (go_at_call 24; refine HEN.out.mono ?_; rintro r w1 ⟨rfl, rfl⟩)
        | (go_at_call 28; refine HR.out.mono ?_; rintro r w2 ⟨rfl, hb2⟩)
        | (go_at_call 23; refine (reads_any (E0 := E0) (N0 := N0) _ (HE.out.below hb2.out)).mono ?_; rintro r w8 ⟨rfl, hb8⟩))
      all_goals (
        go_ret
        exact ⟨rfl, below_up hb2.out hb8⟩)
    | succ n =>
      have hpos : (0 : Int) < ((n + 1 : Nat) : Int) := by omega
      go_wp2_with (first
        | (go_at_call 24; refine HEN.out.mono ?_; rintro r w1 ⟨rfl, rfl⟩)
        | (go_at_call 23; refine (reads_any (E0 := E0) (N0 := N0) _ HE.out).mono ?_; rintro r w8 ⟨rfl, hb8⟩))
      all_goals (
        go_ret
        exact ⟨rfl, hb8⟩)
  · have hl' : (2147483647 : Int) < s.length := by omega
    go_wp2
    go_ret
    exact ⟨rfl, Below.refl _ _⟩
end Go.Proofs.Zip
namespace Go.Proofs.YtiipmnaonidojaaGreatDoor
open Go Go.ChangeShapes Go.WideShapes Go.ChangeAt Go.RowKit Go.Proofs.Zip Go.Deep
namespace fnNoEnd
abbrev fid : Nat := 14
theorem laid_same : Rows.fnNoEndRow.laid = laidL := rfl
set_option maxRecDepth 100000 in
/-- What the walk gives, for every input that can be read. -/
theorem contract (H : Type) (enc : TypeId × Value → H) (W : World) (base : Nat) (args : Array Value) (ds gs : List (DataW H)) (before : List MemPlace)
    (hval : ∀ (j : Nat) t v, Tryz.f14.params[j]? = some t → args[j]? = some v → Value.okWide Tryz.prog W .any base t v)
    (hW : DataW.Whole enc Tryz.prog Tryz.f14.params.toList Rows.fnNoEndSpec.vars false W args.toList ds gs before) (hL : laidMetH Tryz.prog Rows.fnNoEndRow.laid W) :
    Calls Tryz.prog 14 args W fun e W' => ∃ v, e = .returned v ∧ Rows.fnNoEndSpec.post enc Tryz.prog Tryz.f14 false true false false W args v W' := by
  have hW' := hW
  obtain ⟨p, q, hA0, hV, rfl, _, _⟩ := hW
  have hA : DataW.TrodAll enc Tryz.prog W 0 (fun _ => true) true Tryz.f14.params.toList args.toList ds p := hA0
  rw [Tryz.params14] at hA hval
  obtain ⟨v0, vs0, d0, ds0, p0, q0, hargs, rfl, rfl, h0, r0⟩ := trodAll_cons hA
  obtain ⟨rfl, rfl, rfl⟩ := trodAll_nil r0
  obtain rfl : args = #[v0] := by cases args; simp_all
  obtain ⟨E0, hE⟩ : ∃ E0, Env W W.heap.size E0 := by
    rw [laid_same] at hL
    rw [MakeChecks.laidMetH_plain _ _ _ (by kernel_rfl)] at hL
    exact env_of hL
  have hk0 := h0
  obtain ⟨c0, rfl, hc0⟩ : ∃ l : List UInt8, v0 = .string (B l) ∧ l.length ≤ 9223372036854775807 := rd_text h0 (hval 0 9 v0 rfl rfl)
  have hlt : ∀ x ∈ ((p0 ++ [])) ++ q, x.block < W.heap.size := fun x hx => by simpa using hW'.lt x (by simpa using hx)
  refine (noEnd_any c0 W hE hc0).mono fun e W' ⟨he, hb⟩ => ?_
  subst he
  have hV' := Below.trodVars laidOut hb varsOk hV
  obtain ⟨g1, g2, g3, g4, rfl⟩ := four_of_vars hV
  refine ⟨_, rfl, _, _, _, [], p0 ++ ([]), q, hW', trodAll_cons_mk (shut_bool Tryz.underlying4 true) trodAll_mk0, ?_, hV', hb.frame _, fun h => by cases h⟩
  exact trodAll_cons_mk (Below.trod laidOut (by kernel_rfl) (of_decide_eq_true (by kernel_rfl)) hk0 hb (fun x hx => hlt x (by simp [hx]))) (trodAll_mk0)
set_option maxRecDepth 100000 in
theorem lifted (os : Os) (started : os.Started) (H : Type) (enc : TypeId × Value → H) :
    ReturnsInHanded {} Tryz.checked os 14 .any (fun w args => (Rows.fnNoEndSpec.pre enc Tryz.prog Tryz.f14 Rows.fnNoEndRow.domain false w args ∧ laidMetH Tryz.prog Rows.fnNoEndRow.laid w) ∧ sizedMet enc Tryz.prog Tryz.f14 (OpenSpec.ofChange Rows.fnNoEndSpec) false w args)
      (Rows.fnNoEndSpec.post enc Tryz.prog Tryz.f14 false true false false) := by
  refine returnsInHanded_of_change_and (C := Tryz.checked) (X := fun w _ => laidMetH Tryz.prog Rows.fnNoEndRow.laid w) (fun _ _ _ hh h => h.of_heap hh) own started (by kernel_rfl) Tryz.func14
    (ChangeSpec.witness_shaped (enc := enc) (C := Tryz.checked) (os := os) (X := fun w _ => laidMetH Tryz.prog Rows.fnNoEndRow.laid w) false (World.laidAll Tryz.prog os Rows.fnNoEndRow.laid) #[.string ByteArray.empty] 8 (World.laidAll_os _ _ _)
      (World.shaped_of_ZipB (by kernel_rfl) (by kernel_rfl)) (by kernel_rfl) (by kernel_rfl) (by kernel_rfl)
      (by rw [MakeChecks.laidMetH_plain _ _ _ (by kernel_rfl)]; exact laidMet_laidAll _ (by kernel_rfl) (by kernel_rfl))) ?_
  intro W base args ds gs before hval hW _ _ hL _
  exact contract H enc W base args ds gs before hval hW hL
set_option maxRecDepth 100000 in
set_option maxHeartbeats 8000000 in
theorem closed : joinedFacts Tryz.pinned.checked.prog 14 Tryz.f14 Rows.fnNoEndSpec Rows.fnNoEndRow = true := by
  unfold joinedFacts
  rw [show Tryz.pinned.checked.prog = Tryz.prog from rfl, head_enter, head_final, head_make]
  repeat' (with_reducible refine Bool.and_eq_true_iff.2 ⟨?_, ?_⟩)
  all_goals as_aux_lemma => kernel_rfl
theorem wrapped : Tryz.f14.isWrapper Tryz.pinned.checked.prog Rows.fnNoEndRow.wrapper Rows.fnNoEndRow.mainSum := by unfold Func.isWrapper; first | (rw [if_pos (by decide +kernel)]; kernel_rfl) | (rw [if_neg (by decide +kernel)]; exact ⟨rfl, rfl⟩)
set_option maxRecDepth 100000 in
theorem said : Rows.FnNoEndSaid :=
  OpenClaim.holds_of_wide 14 Tryz.f14 rfl rfl rfl rfl rfl rfl rfl ⟨rfl, rfl, rfl, rfl, rfl⟩ rfl rfl rfl rfl rfl (by kernel_rfl) Tryz.func14 closed
    (of_decide_eq_true (by kernel_rfl)) wrapped
    (fun os started H enc _ => lifted os started H enc)
/-- No parameter wants a stand-in. -/
theorem plain (f : FuncId) (fn : Func) (hf : Tryz.pinned.checked.prog.funcNamed "loop.example/pub-ziparchives/laws.FnNoEnd" = some f) (hfn : Tryz.pinned.checked.prog.funcs[f]? = some fn) :
    true = Tryz.pinned.checked.prog.looks [] ∧ ∀ (j : Nat) t, fn.params[j]? = some t → Tryz.pinned.checked.prog.wantsStandIn t = false := by
  obtain rfl : f = 14 := Option.some.inj ((show Tryz.prog.funcNamed "loop.example/pub-ziparchives/laws.FnNoEnd" = some 14 by kernel_rfl).symm.trans hf) |>.symm
  obtain rfl : fn = Tryz.f14 := (Option.some.inj (Tryz.func14.symm.trans hfn)).symm
  refine ⟨by kernel_rfl, fun j t ht => ?_⟩
  rw [Tryz.params14] at ht
  have hm : t ∈ [9] := by simpa using Array.mem_of_getElem? ht
  have hall : ([9].all fun u => !Tryz.prog.wantsStandIn u) = true := by kernel_rfl
  exact (show Tryz.prog.wantsStandIn t = false by simpa using List.all_eq_true.1 hall t hm)
set_option maxRecDepth 100000 in
/-- THE CARD. -/
theorem card : Rows.FnNoEndCardSaid :=
  Claim7.holds_tied_plain_at .later [] _ _ _ _ said (fun _ h => by cases h) (by kernel_rfl) (fun _ h => by cases h) fnNoEnd_row_tie rfl ⟨rfl, rfl⟩ head_main rfl plain (by kernel_rfl)
end fnNoEnd
end Go.Proofs.YtiipmnaonidojaaGreatDoor
