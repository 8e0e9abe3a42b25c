/- What is proved: for every list of entries, every comment, every index, place and byte, FnCentralSpoilt returns true and leaves its arguments as they read: an archive of which a directory header's signature is spoilt at one byte is not read. Conditions: none beyond the row's own: the arguments can be read as data, and the package variables that the row lists hold what the program's text lays (the card ties that). -/
import Derived.Test.YtiipmnaonidojaaGreatDoorZT
import Derived.Test.YtiipmnaonidojaaGreatDoorZS
import Derived.Test.YtiipmnaonidojaaGreatDoorZR
namespace Go.Proofs.Zip
open Go Go.RowKit
theorem Small.list {es : List E} {c : List UInt8} (h : goodB es c = true) : ∀ x ∈ es, Small x.hdr ∧ x.data.length ≤ 4611686018427387904 := fun x hx => by
  have := entryOk_small (List.all_eq_true.1 (good_parts h).1 x hx)
  exact ⟨this.1, by omega⟩
theorem take_ok {es : List E} {c : List UInt8} (h : goodB es c = true) (k : Nat) : (es.take k).all entryOk = true ∧ (es.take k).length ≤ 1000 := by
  obtain ⟨h1, h2, _⟩ := good_parts h
  exact ⟨List.all_eq_true.2 fun x hx => List.all_eq_true.1 h1 x (List.mem_of_mem_take hx), by rw [List.length_take]; omega⟩
theorem turnedL_append {A R : List UInt8} (i b : Nat) : turnedL (A ++ R) (A.length + i) b = A ++ turnedL R i b := by
  simp only [turnedL]
  rw [List.take_append, List.take_of_length_le (by omega), show A.length + i - A.length = i by omega, List.getElem?_append_right (by omega), show A.length + i - A.length = i by omega, show A.length + i + 1 = A.length + (i + 1) by omega, ← List.drop_drop, List.drop_left, List.append_assoc]
theorem turnedL_left {A R : List UInt8} {i : Nat} (b : Nat) (h : i < A.length) : turnedL (A ++ R) i b = turnedL A i b ++ R := by
  simp only [turnedL]
  rw [List.take_append_of_le_length (by omega), List.getElem?_append_left h, List.drop_append_of_le_length (by omega), List.append_assoc, List.cons_append]
theorem u8_turn {x : UInt8} {b : Nat} (hb : b < 256) (hz : b ≠ 0) : (x ^^^ UInt8.ofNat b).toNat ≠ x.toNat := by
  intro h
  have h1 := UInt8.toNat_inj.1 h
  have h2 : UInt8.ofNat b = 0 := by
    have h4 := congrArg (x ^^^ ·) h1
    simpa [← UInt8.xor_assoc] using h4
  have h3 := congrArg UInt8.toNat h2
  simp at h3
  omega
theorem stops_turned {R : List UInt8} {a b : Nat} (ha : a ≤ 3) (hb : b < 256) (hz : b ≠ 0) : Stops (turnedL ([80, 75, 1, 2] ++ R) a b) := by
  intro _
  have h0 := u8_turn (x := 80) hb hz
  have h1 := u8_turn (x := 75) hb hz
  have h2 := u8_turn (x := 1) hb hz
  have h3 := u8_turn (x := 2) hb hz
  have l0 := (80 ^^^ UInt8.ofNat b).toNat_lt
  have l1 := (75 ^^^ UInt8.ofNat b).toNat_lt
  have l2 := (1 ^^^ UInt8.ofNat b).toNat_lt
  have l3 := (2 ^^^ UInt8.ofNat b).toNat_lt
  rw [turnedL_left b (by simp; omega)]
  rcases (by omega : a = 0 ∨ a = 1 ∨ a = 2 ∨ a = 3) with rfl | rfl | rfl | rfl
  · have e : n4 ((turnedL [80, 75, 1, 2] 0 b ++ R).take 46) 0 = leN [80 ^^^ UInt8.ofNat b, 75, 1, 2] := rfl
    rw [e]; simp only [leN]
    generalize (80 ^^^ UInt8.ofNat b) = x0 at h0 l0
    have : (80 : UInt8).toNat = 80 := rfl
    have : (75 : UInt8).toNat = 75 := rfl
    have : (1 : UInt8).toNat = 1 := rfl
    have : (2 : UInt8).toNat = 2 := rfl
    omega
  · have e : n4 ((turnedL [80, 75, 1, 2] 1 b ++ R).take 46) 0 = leN [80, 75 ^^^ UInt8.ofNat b, 1, 2] := rfl
    rw [e]; simp only [leN]
    generalize (75 ^^^ UInt8.ofNat b) = x0 at h1 l1
    have : (80 : UInt8).toNat = 80 := rfl
    have : (75 : UInt8).toNat = 75 := rfl
    have : (1 : UInt8).toNat = 1 := rfl
    have : (2 : UInt8).toNat = 2 := rfl
    omega
  · have e : n4 ((turnedL [80, 75, 1, 2] 2 b ++ R).take 46) 0 = leN [80, 75, 1 ^^^ UInt8.ofNat b, 2] := rfl
    rw [e]; simp only [leN]
    generalize (1 ^^^ UInt8.ofNat b) = x0 at h2 l2
    have : (80 : UInt8).toNat = 80 := rfl
    have : (75 : UInt8).toNat = 75 := rfl
    have : (1 : UInt8).toNat = 1 := rfl
    have : (2 : UInt8).toNat = 2 := rfl
    omega
  · have e : n4 ((turnedL [80, 75, 1, 2] 3 b ++ R).take 46) 0 = leN [80, 75, 1, 2 ^^^ UInt8.ofNat b] := rfl
    rw [e]; simp only [leN]
    generalize (2 ^^^ UInt8.ofNat b) = x0 at h3 l3
    have : (80 : UInt8).toNat = 80 := rfl
    have : (75 : UInt8).toNat = 75 := rfl
    have : (1 : UInt8).toNat = 1 := rfl
    have : (2 : UInt8).toNat = 2 := rfl
    omega
theorem dirL_split (es : List E) (k : Nat) (h : k < es.length) : ∃ R, dirL es 0 = dirL (es.take k) 0 ++ ([80, 75, 1, 2] ++ R) := by
  conv => enter [1, R, 1]; rw [← List.take_append_drop k es, dirL_append]
  rw [List.drop_eq_getElem_cons h, dirL]
  refine ⟨(leB 2 es[k].hdr.creator ++ leB 2 es[k].hdr.reader ++ fieldsL es[k].hdr ++ leB 2 es[k].hdr.name.length ++ leB 2 es[k].hdr.extra.length ++ leB 2 es[k].hdr.comment.length ++ leB 2 0 ++ leB 2 0 ++ leB 4 es[k].hdr.ext ++ leB 4 (atL (es.take k) 0) ++ es[k].hdr.name ++ es[k].hdr.extra ++ es[k].hdr.comment) ++ dirL (es.drop (k + 1)) (wrap64 (atL (es.take k) 0 + ((localL es[k].hdr).length + es[k].data.length : Nat))), ?_⟩
  rw [centralL]
  simp only [List.append_assoc]
/-- An archive of which a header in the directory is spoilt. -/
theorem readCentral_good {N0 : Nat} {E0 : Errs} {es : List E} {c D : List UInt8} {kk aa bb p : Nat} (w : World) (hE : Env w N0 E0) (hg : goodB es c = true) (hk : kk < es.length) (ha : aa ≤ 3) (hb : bb < 256) (hz : bb ≠ 0) (hp : p = (filesL es).length + ((dirL (es.take kk) 0).length + aa)) (hD : D = turnedL (archiveL es c) p bb) (ho : endsL D = 1) :
    Calls Tryz.prog 28 #[.string (B D)] w (NotOk w) := by
  obtain ⟨R, hR⟩ := dirL_split es kk hk
  obtain ⟨h1, h2, h3, h4⟩ := good_parts hg
  obtain ⟨t1, t2⟩ := take_ok hg kk
  have hf := filesL_ok h1
  have hd := dirL_ok h1 0
  have hf2 := filesL_ok t1
  obtain ⟨T, hT⟩ : ∃ T, T = turnedL ([80, 75, 1, 2] ++ R) aa bb := ⟨_, rfl⟩
  have hTl : T.length = ([80, 75, 1, 2] ++ R).length := by rw [hT]; exact length_turnedL (by simp; omega)
  have hDr : (dirL (es.take kk) 0 ++ T).length = (dirL es 0).length := by rw [hR, List.length_append, List.length_append, hTl]
  have e1 : D = filesL es ++ ((dirL (es.take kk) 0 ++ T) ++ endL es.length (dirL es 0).length (filesL es).length c) := by
    rw [hD, hp, archiveL, turnedL_append]
    conv => lhs; enter [2]; rw [show dirL es 0 ++ endL es.length (dirL es 0).length (filesL es).length c = dirL (es.take kk) 0 ++ (([80, 75, 1, 2] ++ R) ++ endL es.length (dirL es 0).length (filesL es).length c) by
      conv => lhs; enter [1]; rw [hR]
      rw [List.append_assoc]]
    rw [turnedL_append, turnedL_left bb (by simp; omega), ← hT, List.append_assoc]
  rw [← hDr] at e1
  have hL : Lay D [] (filesL es) (dirL (es.take kk) 0 ++ T) c [] es.length := ⟨by rw [e1]; simp, by omega, by omega, by rw [hDr]; omega, by simp, h3, by simp, ho⟩
  obtain ⟨b, k, hA, hpp⟩ := hL.arc (hsOf (es.take kk) 0) T (.inl rfl) (congrArg (· ++ T) (dirL_catL (es.take kk) 0 (by omega))) (hsOf_ok t1 0 (by omega)) (by rw [hsOf_length]; omega) (by
    rw [hT, ← turnedL_left bb (by simp; omega), List.append_assoc]
    exact stops_turned ha hb hz)
  refine readCount_any _ b k D _ (hsOf (es.take kk) 0) w hE hA ?_
  rw [hsOf_length, hpp, hL.n2 10 (by omega), hL.ebytes.f10, List.length_take]
  omega
set_option maxRecDepth 100000 in
set_option maxHeartbeats 2000000 in
theorem centralSpoilt_any {N0 : Nat} {E0 : Errs} (es : List E) (c : List UInt8) (k at_ b : Int) (v : Value) (w : World) (hE : Env w N0 E0) (hv : IsList w v es) (hlen : es.length ≤ 9223372036854775807) (hc : c.length ≤ 9223372036854775807) (hb0 : 0 ≤ b) (hb1 : b < 256) (hcap : Hid (∀ a n cap, v = .slice a n cap → n ≤ cap)) :
    Calls Tryz.prog 11 #[v, .string (B c), .int .i64 k, .int .i64 at_, .int .u8 b] w fun e w' => e = .returned (.bool true) ∧ Below w.heap.size w w' := by
  have HFT := Lib.hid (fits1_any es v w hv hlen)
  have HE := Lib.hid hE
  have HV := Lib.hid hv
  obtain ⟨fa, fcap, rfl, hrows⟩ := hv
  have HROWS := Lib.hid hrows
  clear hE hrows
  go_enter Tryz.func11, Tryz.ntmps11
  go_wp2_with fail
  refine HFT.out.mono ?_
  rintro e w1 ⟨rfl, hb1'⟩
  have HB1 := Lib.hid hb1'
  have HV1 := Lib.hid (HV.out.below hb1')
  clear hb1' HFT HV
  cases hft : fits1 es
  · go_wp2
    go_ret
    exact ⟨rfl, HB1.out⟩
  obtain ⟨hl1, hl2⟩ := fits1_small hft
  clear hft hl2
  by_cases hcl : c.length ≤ 2147483647
  · have hcl' : ¬ (2147483647 : Int) < c.length := by omega
    have HG := Lib.hid (good_any es c _ w1 HV1.out (by omega) (by omega))
    go_wp2_with fail
    refine HG.out.mono ?_
    rintro r w4 ⟨rfl, hb4⟩
    have HV4 := Lib.hid (HV1.out.below hb4)
    have HB4 := Lib.hid (below_up HB1.out hb4)
    clear hb4 HG HV1
    cases hgood : goodB es c
    · go_wp2
      go_ret
      exact ⟨rfl, HB4.out⟩
    have HGOOD := Lib.hid hgood
    clear hgood
    by_cases hk0 : k < 0
    · go_wp2
      go_ret
      exact ⟨rfl, HB4.out⟩
    obtain ⟨kk, rfl⟩ := Int.eq_ofNat_of_zero_le (by omega : 0 ≤ k)
    clear hk0
    by_cases hk1 : kk < es.length
    · have hk1' : ¬ (es.length : Int) ≤ (kk : Int) := by omega
      by_cases ha0 : at_ < 0
      · go_wp2
        go_ret
        exact ⟨rfl, HB4.out⟩
      obtain ⟨aa, rfl⟩ := Int.eq_ofNat_of_zero_le (by omega : 0 ≤ at_)
      clear ha0
      by_cases ha1 : aa ≤ 3
      · have ha1' : ¬ (3 : Int) < (aa : Int) := by omega
        obtain ⟨bb, rfl⟩ := Int.eq_ofNat_of_zero_le hb0
        by_cases hz : bb = 0
        · subst hz
          go_wp2
          go_ret
          exact ⟨rfl, HB4.out⟩
        have hzb : ((bb : Int) == 0) = false := by rw [beq_eq_false_iff_ne]; omega
        have HZ := Lib.hid hz
        clear hz
        have hkc : kk ≤ fcap := by have := hcap.out _ _ _ rfl; omega
        obtain ⟨gb, off, rfl, hgb, hrr⟩ := HROWS.out (by intro h; subst h; simp at hk1)
        have hgb1 := keepSize HB1.out hgb
        have HT4 : Hid (IsList w4 (.slice (some ⟨gb, off, none⟩) (es.take kk).length fcap) (es.take kk)) := Lib.hid ⟨_, fcap, rfl, fun hne => ⟨gb, off, rfl, keepSize HB4.out hgb, fun k e he => rangeAt_below HB4.out (hrr k e (by
          rw [List.getElem?_take] at he
          split at he
          · exact he
          · cases he)) hgb⟩⟩
        have htl : (es.take kk).length = kk := by rw [List.length_take]; omega
        rw [htl] at HT4
        have hfl := filesL_ok (good_parts HGOOD.out).1
        have hdl := dirL_ok (good_parts HGOOD.out).1 0
        have htk := dirL_le es kk
        have hlg := (good_parts HGOOD.out).2.1
        have hcg := (good_parts HGOOD.out).2.2.1
        obtain ⟨p, hp⟩ : ∃ p, p = (filesL es).length + ((dirL (es.take kk) 0).length + aa) := ⟨_, rfl⟩
        have hal : (archiveL es c).length = (filesL es).length + (dirL es 0).length + 22 + c.length := by simp only [archiveL, List.length_append, length_endL]; omega
        have hpl : p < (archiveL es c).length := by omega
        have hpi : (p : Int) = ((filesL es).length : Int) + ((dirL (es.take kk) 0).length : Int) + (aa : Int) := by omega
        obtain ⟨D, hD⟩ : ∃ D, D = turnedL (archiveL es c) p bb := ⟨_, rfl⟩
        have hDl : D.length = (archiveL es c).length := by rw [hD]; exact length_turnedL hpl
        have HP := Lib.hid hp
        have HDD := Lib.hid hD
        have HTU := Lib.hid (fun w' => turned_any (archiveL es c) p bb w' (by omega) hpl (by omega))
        rw [← hD, hpi] at HTU
        clear hp hD
        go_upto_region 5 with fail
        refine wp_region_below (by kernel_rfl) (by kernel_rfl) fun σ _ f hf hcell hmk => ?_
        have HAx := fun x => (archive_good HGOOD.out _ (f x) (HV4.out.below (hf x))).mono (R' := fun e w' => e = .returned (.string (B (archiveL es c))) ∧ ∃ y, w' = f y) fun e w' ⟨he, hb⟩ => ⟨he, hmk x w' hb⟩
        have HFx := fun x => (files_any es _ (f x) (HV4.out.below (hf x)) (by omega) (fun e he => ((Small.list HGOOD.out) e he).1) (by omega)).mono (R' := fun e w' => e = .returned (.string (B (filesL es))) ∧ ∃ y, w' = f y) fun e w' ⟨he, hb⟩ => ⟨he, hmk x w' hb⟩
        have HDx := fun x => (directory_any (es.take kk) _ (f x) (HT4.out.below (hf x)) (by omega) (fun e he => Small.list HGOOD.out e (List.mem_of_mem_take he)) (by omega)).mono (R' := fun e w' => e = .returned (.string (B (dirL (es.take kk) 0))) ∧ ∃ y, w' = f y) fun e w' ⟨he, hb⟩ => ⟨he, hmk x w' hb⟩
        have HTx := fun x => (HTU.out (f x)).mono (R' := fun e w' => e = .returned (.string (B D)) ∧ ∃ y, w' = f y) fun e w' ⟨he, hb⟩ => ⟨he, hmk x w' hb⟩
        repeat (go_big_quiet_step ((first | (go_at_call 21; exact HAx _) | (go_at_call 26; exact HFx _) | (go_at_call 30; exact HDx _) | (go_at_call 22; exact HTx _))))
        refine wpQuiet_nil ?_
        rintro _ ⟨x, rfl⟩
        have hfx := hf x
        clear hf hcell hmk HAx HFx HDx HTx HTU HV4 HT4
        generalize f x = w5 at hfx
        have HB5 := Lib.hid (below_up HB4.out hfx)
        clear hfx
        have hDl' : D.length ≤ 4611686018427387904 := by omega
        have HEN := Lib.hid (ends_any D w5 hDl')
        obtain ⟨n, hn⟩ : ∃ n, n = endsL D := ⟨_, rfl⟩
        rw [← hn] at HEN
        by_cases hn1 : n = 1
        · have HR := Lib.hid (readCentral_good (N0 := N0) (E0 := E0) w5 (HE.out.below HB5.out) HGOOD.out hk1 ha1 (by omega) HZ.out HP.out HDD.out (by omega))
          subst hn1
          clear hn
          go_wp2_with (first
            | (go_at_call 24; refine HEN.out.mono ?_; rintro r w8 ⟨rfl, rfl⟩)
            | (go_at_call 28; refine HR.out.mono ?_; rintro r w8 ⟨rfl, hb8⟩)
            | (go_at_call 23; refine (reads_any (E0 := E0) (N0 := N0) _ (HE.out.below (below_up HB5.out hb8.out))).mono ?_; rintro r w9 ⟨rfl, hb9⟩))
          all_goals (
            go_ret
            exact ⟨rfl, below_up (below_up HB5.out hb8.out) hb9⟩)
        · have hn1b : ¬ (n : Int) = 1 := by omega
          clear hn hn1
          go_wp2_with (first
            | (go_at_call 24; refine HEN.out.mono ?_; rintro r w8 ⟨rfl, rfl⟩)
            | (go_at_call 23; refine (reads_any (E0 := E0) (N0 := N0) _ (HE.out.below HB5.out)).mono ?_; rintro r w9 ⟨rfl, hb9⟩))
          all_goals (
            go_ret
            exact ⟨rfl, below_up HB5.out hb9⟩)
      · have ha1' : (3 : Int) < (aa : Int) := by omega
        go_wp2
        go_ret
        exact ⟨rfl, HB4.out⟩
    · have hk1' : (es.length : Int) ≤ (kk : Int) := by omega
      go_wp2
      go_ret
      exact ⟨rfl, HB4.out⟩
  · have hcl' : (2147483647 : Int) < c.length := by omega
    go_wp2
    go_ret
    exact ⟨rfl, HB1.out⟩
end Go.Proofs.Zip
namespace Go.Proofs.YtiipmnaonidojaaGreatDoor
open Go Go.ChangeShapes Go.WideShapes Go.ChangeAt Go.RowKit Go.Proofs.Zip Go.Deep
namespace fnCentralSpoilt
theorem okWide_cap {P : Program} {w : World} {r : Reach} {base : Nat} {t e : TypeId} {v : Value} (ht : P.underlying t = some (.slice e)) (h : Value.okWide P w r base t v) : ∀ a n cap, v = .slice a n cap → n ≤ cap := by
  rintro a n cap rfl
  cases a with
  | some a =>
    simp only [Value.okWide, ht, Cell.okWide, Cell.ok] at h
    exact h.1
  | none =>
    simp only [Value.okWide, ht, Cell.okWide] at h
    cases n <;> cases cap <;> simp_all [Cell.ok]
theorem u8_wf {n : Int} (h : (Lit.int .u8 n).wf = true) : 0 ≤ n ∧ n < 256 := by
  simp only [Lit.wf, Bool.and_eq_true, decide_eq_true_eq] at h
  have h1 : IntKind.u8.min = 0 := rfl
  have h2 : IntKind.u8.max = 255 := rfl
  omega
abbrev fid : Nat := 11
theorem laid_same : Rows.fnCentralSpoiltRow.laid = laidL := rfl
set_option maxRecDepth 100000 in
/-- What the walk gives, for every input that can be read. -/
theorem contract (H : Type) (enc : TypeId × Value → H) (W : World) (base : Nat) (args : Array Value) (ds gs : List (DataW H)) (before : List MemPlace)
    (hval : ∀ (j : Nat) t v, Tryz.f11.params[j]? = some t → args[j]? = some v → Value.okWide Tryz.prog W .any base t v)
    (hW : DataW.Whole enc Tryz.prog Tryz.f11.params.toList Rows.fnCentralSpoiltSpec.vars false W args.toList ds gs before) (hL : laidMetH Tryz.prog Rows.fnCentralSpoiltRow.laid W) :
    Calls Tryz.prog 11 args W fun e W' => ∃ v, e = .returned v ∧ Rows.fnCentralSpoiltSpec.post enc Tryz.prog Tryz.f11 false true false false W args v W' := by
  have hW' := hW
  obtain ⟨p, q, hA0, hV, rfl, _, _⟩ := hW
  have hA : DataW.TrodAll enc Tryz.prog W 0 (fun _ => true) true Tryz.f11.params.toList args.toList ds p := hA0
  rw [Tryz.params11] at hA hval
  obtain ⟨v0, vs0, d0, ds0, p0, q0, hargs, rfl, rfl, h0, r0⟩ := trodAll_cons hA
  obtain ⟨v1, vs1, d1, ds1, p1, q1, rfl, rfl, rfl, h1, r1⟩ := trodAll_cons r0
  obtain ⟨v2, vs2, d2, ds2, p2, q2, rfl, rfl, rfl, h2, r2⟩ := trodAll_cons r1
  obtain ⟨v3, vs3, d3, ds3, p3, q3, rfl, rfl, rfl, h3, r3⟩ := trodAll_cons r2
  obtain ⟨v4, vs4, d4, ds4, p4, q4, rfl, rfl, rfl, h4, r4⟩ := trodAll_cons r3
  obtain ⟨rfl, rfl, rfl⟩ := trodAll_nil r4
  obtain rfl : args = #[v0, v1, v2, v3, v4] := by cases args; simp_all
  obtain ⟨E0, hE⟩ : ∃ E0, Env W W.heap.size E0 := by
    rw [laid_same] at hL
    rw [MakeChecks.laidMetH_plain _ _ _ (by kernel_rfl)] at hL
    exact env_of hL
  have hk0 := h0
  have hk1 := h1
  have hk2 := h2
  have hk3 := h3
  have hk4 := h4
  obtain ⟨es0, hes0, hel0⟩ := rd_list h0 (okWide_slice Tryz.underlying22 (hval 0 22 v0 rfl rfl))
  obtain ⟨c1, rfl, hc1⟩ : ∃ l : List UInt8, v1 = .string (B l) ∧ l.length ≤ 9223372036854775807 := rd_text h1 (hval 1 9 v1 rfl rfl)
  obtain ⟨n2, rfl, -, -, wf2⟩ := open_int Tryz.underlying3 (hval 2 3 v2 rfl rfl) h2
  obtain ⟨n3, rfl, -, -, wf3⟩ := open_int Tryz.underlying3 (hval 3 3 v3 rfl rfl) h3
  obtain ⟨n4, rfl, -, -, wf4⟩ := open_int Tryz.underlying5 (hval 4 5 v4 rfl rfl) h4
  have hlt : ∀ x ∈ ((p0 ++ (p1 ++ (p2 ++ (p3 ++ (p4 ++ [])))))) ++ q, x.block < W.heap.size := fun x hx => by simpa using hW'.lt x (by simpa using hx)
  refine (centralSpoilt_any es0 c1 n2 n3 n4 v0 W hE hes0 hel0 hc1 (u8_wf wf4).1 (u8_wf wf4).2 (Lib.hid (okWide_cap Tryz.underlying22 (hval 0 22 v0 rfl rfl)))).mono fun e W' ⟨he, hb⟩ => ?_
  subst he
  have hV' := Below.trodVars laidOut hb varsOk hV
  obtain ⟨g1, g2, g3, g4, rfl⟩ := four_of_vars hV
  refine ⟨_, rfl, _, _, _, [], p0 ++ (p1 ++ (p2 ++ (p3 ++ (p4 ++ ([]))))), q, hW', trodAll_cons_mk (shut_bool Tryz.underlying4 true) trodAll_mk0, ?_, hV', hb.frame _, fun h => by cases h⟩
  exact trodAll_cons_mk (Below.trod laidOut (by kernel_rfl) (of_decide_eq_true (by kernel_rfl)) hk0 hb (fun x hx => hlt x (by simp [hx]))) (trodAll_cons_mk (Below.trod laidOut (by kernel_rfl) (of_decide_eq_true (by kernel_rfl)) hk1 hb (fun x hx => hlt x (by simp [hx]))) (trodAll_cons_mk (Below.trod laidOut (by kernel_rfl) (of_decide_eq_true (by kernel_rfl)) hk2 hb (fun x hx => hlt x (by simp [hx]))) (trodAll_cons_mk (Below.trod laidOut (by kernel_rfl) (of_decide_eq_true (by kernel_rfl)) hk3 hb (fun x hx => hlt x (by simp [hx]))) (trodAll_cons_mk (Below.trod laidOut (by kernel_rfl) (of_decide_eq_true (by kernel_rfl)) hk4 hb (fun x hx => hlt x (by simp [hx]))) (trodAll_mk0)))))
set_option maxRecDepth 100000 in
theorem lifted (os : Os) (started : os.Started) (H : Type) (enc : TypeId × Value → H) :
    ReturnsInHanded {} Tryz.checked os 11 .any (fun w args => (Rows.fnCentralSpoiltSpec.pre enc Tryz.prog Tryz.f11 Rows.fnCentralSpoiltRow.domain false w args ∧ laidMetH Tryz.prog Rows.fnCentralSpoiltRow.laid w) ∧ sizedMet enc Tryz.prog Tryz.f11 (OpenSpec.ofChange Rows.fnCentralSpoiltSpec) false w args)
      (Rows.fnCentralSpoiltSpec.post enc Tryz.prog Tryz.f11 false true false false) := by
  refine returnsInHanded_of_change_and (C := Tryz.checked) (X := fun w _ => laidMetH Tryz.prog Rows.fnCentralSpoiltRow.laid w) (fun _ _ _ hh h => h.of_heap hh) own started (by kernel_rfl) Tryz.func11
    (ChangeSpec.witness_shaped (enc := enc) (C := Tryz.checked) (os := os) (X := fun w _ => laidMetH Tryz.prog Rows.fnCentralSpoiltRow.laid w) false (World.laidAll Tryz.prog os Rows.fnCentralSpoiltRow.laid) #[.slice none 0 0, .string ByteArray.empty, .int .i64 0, .int .i64 0, .int .u8 0] 8 (World.laidAll_os _ _ _)
      (World.shaped_of_ZipB (by kernel_rfl) (by kernel_rfl)) (by kernel_rfl) (by kernel_rfl) (by kernel_rfl)
      (by rw [MakeChecks.laidMetH_plain _ _ _ (by kernel_rfl)]; exact laidMet_laidAll _ (by kernel_rfl) (by kernel_rfl))) ?_
  intro W base args ds gs before hval hW _ _ hL _
  exact contract H enc W base args ds gs before hval hW hL
set_option maxRecDepth 100000 in
set_option maxHeartbeats 8000000 in
theorem closed : joinedFacts Tryz.pinned.checked.prog 11 Tryz.f11 Rows.fnCentralSpoiltSpec Rows.fnCentralSpoiltRow = true := by
  unfold joinedFacts
  rw [show Tryz.pinned.checked.prog = Tryz.prog from rfl, head_enter, head_final, head_make]
  repeat' (with_reducible refine Bool.and_eq_true_iff.2 ⟨?_, ?_⟩)
  all_goals as_aux_lemma => kernel_rfl
theorem wrapped : Tryz.f11.isWrapper Tryz.pinned.checked.prog Rows.fnCentralSpoiltRow.wrapper Rows.fnCentralSpoiltRow.mainSum := by unfold Func.isWrapper; first | (rw [if_pos (by decide +kernel)]; kernel_rfl) | (rw [if_neg (by decide +kernel)]; exact ⟨rfl, rfl⟩)
set_option maxRecDepth 100000 in
theorem said : Rows.FnCentralSpoiltSaid :=
  OpenClaim.holds_of_wide 11 Tryz.f11 rfl rfl rfl rfl rfl rfl rfl ⟨rfl, rfl, rfl, rfl, rfl⟩ rfl rfl rfl rfl rfl (by kernel_rfl) Tryz.func11 closed
    (of_decide_eq_true (by kernel_rfl)) wrapped
    (fun os started H enc _ => lifted os started H enc)
/-- No parameter wants a stand-in. -/
theorem plain (f : FuncId) (fn : Func) (hf : Tryz.pinned.checked.prog.funcNamed "loop.example/pub-ziparchives/laws.FnCentralSpoilt" = some f) (hfn : Tryz.pinned.checked.prog.funcs[f]? = some fn) :
    true = Tryz.pinned.checked.prog.looks [] ∧ ∀ (j : Nat) t, fn.params[j]? = some t → Tryz.pinned.checked.prog.wantsStandIn t = false := by
  obtain rfl : f = 11 := Option.some.inj ((show Tryz.prog.funcNamed "loop.example/pub-ziparchives/laws.FnCentralSpoilt" = some 11 by kernel_rfl).symm.trans hf) |>.symm
  obtain rfl : fn = Tryz.f11 := (Option.some.inj (Tryz.func11.symm.trans hfn)).symm
  refine ⟨by kernel_rfl, fun j t ht => ?_⟩
  rw [Tryz.params11] at ht
  have hm : t ∈ [22, 9, 3, 3, 5] := by simpa using Array.mem_of_getElem? ht
  have hall : ([22, 9, 3, 3, 5].all fun u => !Tryz.prog.wantsStandIn u) = true := by kernel_rfl
  exact (show Tryz.prog.wantsStandIn t = false by simpa using List.all_eq_true.1 hall t hm)
set_option maxRecDepth 100000 in
/-- THE CARD. -/
theorem card : Rows.FnCentralSpoiltCardSaid :=
  Claim7.holds_tied_plain_at .later [] _ _ _ _ said (fun _ h => by cases h) (by kernel_rfl) (fun _ h => by cases h) fnCentralSpoilt_row_tie rfl ⟨rfl, rfl⟩ head_main rfl plain (by kernel_rfl)
end fnCentralSpoilt
end Go.Proofs.YtiipmnaonidojaaGreatDoor
