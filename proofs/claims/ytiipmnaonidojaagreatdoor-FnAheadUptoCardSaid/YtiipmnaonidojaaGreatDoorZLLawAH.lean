/- PROVED: 'laws.FnAhead' (what stands ahead of an archive is not looked at) answers true for every list of entries, every comment, every text ahead and every place, of bulk at most 1048576 together (the second form, Upto: the first is false by size alone).
   CONDITIONS: none but the second form's own bound and what the given row itself states (the package's variables as the program's text lays them). -/
import Derived.Test.YtiipmnaonidojaaGreatDoorZX
import Derived.Test.YtiipmnaonidojaaGreatDoorZS
import Derived.Test.YtiipmnaonidojaaGreatDoorZR
namespace Go.Proofs.Zip
open Go Go.RowKit
/-- Whether a text stands in another one at a place. -/
def atB (l : List UInt8) (a : Nat) (p : List UInt8) : Bool := decide (a + p.length ≤ l.length) && (List.take p.length (List.drop a l) == p)
set_option maxRecDepth 100000 in
theorem at_any (l p : List UInt8) (a : Nat) (w : World) (hl : l.length ≤ 4611686018427387904) (ha : a ≤ 2305843009213693952) (hp : p.length ≤ 2305843009213693952) :
    Calls Tryz.prog 25 #[.string (B l), .int .i64 a, .string (B p)] w fun r w' => r = .returned (.bool (atB l a p)) ∧ w = w' := by
  go_enter Tryz.func25, Tryz.ntmps25
  by_cases h : a + p.length ≤ l.length
  · have h' : ((a : Int) + (p.length : Int) ≤ (l.length : Int)) := by omega
    have HA : Hid (atB l a p = (List.take p.length (List.drop a l) == p)) := Lib.hid (by unfold atB; simp [h])
    go_wp2
    go_ret
    refine ⟨?_, rfl⟩
    rw [HA.out]
    first | rfl | simp
  · have h' : ¬ ((a : Int) + (p.length : Int) ≤ (l.length : Int)) := by omega
    have HA : Hid (atB l a p = false) := Lib.hid (by unfold atB; simp [h])
    go_wp2
    go_ret
    exact ⟨by rw [HA.out]; rfl, rfl⟩
theorem stops_not_at {D : List UInt8} {a : Nat} (h : atB D a [80, 75, 1, 2] = false) : Stops (D.drop a) := by
  intro h46 hn
  rw [List.length_drop] at h46
  unfold atB at h
  have h1 : a + [(80 : UInt8), 75, 1, 2].length ≤ D.length := by simp; omega
  rw [decide_eq_true h1, Bool.true_and, beq_eq_false_iff_ne] at h
  apply h
  have e4 : ([(80 : UInt8), 75, 1, 2]).length = 4 := rfl
  rw [e4]
  obtain ⟨L, hL⟩ : ∃ L, L = List.take 4 (List.drop a D) := ⟨_, rfl⟩
  have hl : L.length = 4 := by rw [hL, List.length_take, List.length_drop]; omega
  have hn2 : leN L = 33639248 := by
    rw [← hn, n4, List.drop_zero, List.take_take, hL]; rfl
  rw [← hL]
  match L, hl with
  | [x0, x1, x2, x3], _ =>
    simp only [leN] at hn2
    have b0 := x0.toNat_lt
    have b1 := x1.toNat_lt
    have b2 := x2.toNat_lt
    have b3 := x3.toNat_lt
    have g0 : x0 = 80 := UInt8.toNat_inj.1 (show x0.toNat = 80 by omega)
    have g1 : x1 = 75 := UInt8.toNat_inj.1 (show x1.toNat = 75 by omega)
    have g2 : x2 = 1 := UInt8.toNat_inj.1 (show x2.toNat = 1 by omega)
    have g3 : x3 = 2 := UInt8.toNat_inj.1 (show x3.toNat = 2 by omega)
    rw [g0, g1, g2, g3]
theorem bulkE_stored (es : List E) : bulkE (es.map storedE) = bulkE es := by
  induction es with
  | nil => rfl
  | cons e es ih => rw [List.map_cons, bulkE, bulkE, ih]; rfl
set_option maxRecDepth 100000 in
set_option maxHeartbeats 8000000 in
theorem ahead_any {N0 : Nat} {E0 : Errs} (es : List E) (c before : List UInt8) (k : Int) (v : Value) (w : World) (hE : Env w N0 E0) (hv : IsList w v es) (hlen : es.length ≤ 9223372036854775807) (hc : c.length ≤ 9223372036854775807) (hm : before.length ≤ 9223372036854775807)
    (hbk : 46 * es.length + bulkE es ≤ 1152921504606846976) :
    Calls Tryz.prog 9 #[v, .string (B c), .string (B before), .int .i64 k] w fun e w' => e = .returned (.bool true) ∧ Below w.heap.size w w' := by
  have HFT := Lib.hid (fits1_any es v w hv hlen)
  have HE := Lib.hid hE
  have HV := Lib.hid hv
  clear hE hv
  go_enter Tryz.func9, Tryz.ntmps9
  go_wp2_with fail
  refine HFT.out.mono ?_
  rintro e w1 ⟨rfl, hb1⟩
  have HB1 := Lib.hid hb1
  clear hb1 HFT
  cases hft : fits1 es
  · go_wp2
    go_ret
    exact ⟨rfl, HB1.out⟩
  have HSM := Lib.hid (fits1_hdrs hft)
  obtain ⟨hl1, hl2⟩ := fits1_small hft
  clear hft hl2
  by_cases hcl : c.length ≤ 2147483647
  · have hcl' : ¬ (2147483647 : Int) < c.length := by omega
    by_cases hml : before.length ≤ 2147483647
    · have hml' : ¬ (2147483647 : Int) < before.length := by omega
      have HAS := Lib.hid (allStored_any es v w1 (HV.out.below HB1.out) hl1 (fun e he => (HSM.out e he).2))
      go_wp2_with fail
      refine HAS.out.mono ?_
      rintro e w2 ⟨u, rfl, hown, hb2⟩
      obtain ⟨es', hes'⟩ : ∃ l, l = es.map storedE := ⟨_, rfl⟩
      have hlen' : es'.length = es.length := by rw [hes']; simp
      have hbk' : 46 * es'.length + bulkE es' ≤ 1152921504606846976 := by rw [hlen', hes', bulkE_stored]; exact hbk
      rw [← hes', ← hlen'] at hown
      have HLI := Lib.hid (isList_own hown)
      have HB2 := Lib.hid (below_up HB1.out hb2)
      have HSM' : Hid (∀ e ∈ es', Small e.hdr ∧ e.data.length ≤ 4611686018427387904) := Lib.hid fun e he => by
        rw [hes', List.mem_map] at he
        obtain ⟨x, hx, rfl⟩ := he
        have := HSM.out x hx
        exact ⟨⟨this.1.name, this.1.comment, this.1.extra⟩, this.2⟩
      have HES := Lib.hid hes'
      clear hown hb2 HAS hes' HSM HV hbk
      have hfb := filesL_bulk es'
      have hdb := dirL_bulk es' 0
      have hal : (archiveL es' c).length = (filesL es').length + (dirL es' 0).length + 22 + c.length := by simp only [archiveL, List.length_append, length_endL]; omega
      have HAR := Lib.hid (archive_any es' c u w2 HLI.out (by omega) HSM'.out (by omega) (by omega) (by omega))
      have hl1' : es'.length ≤ 2147483647 := by omega
      clear hlen' hl1 HSM'
      go_wp2_with fail
      refine HAR.out.mono ?_
      rintro e w3 ⟨rfl, hb3⟩
      have HLI3 := Lib.hid (HLI.out.below hb3)
      have HB3 := Lib.hid (below_up HB2.out hb3)
      clear hb3 HAR HLI
      have HG := Lib.hid (good_any es' c u w3 HLI3.out (by omega) (by omega))
      go_wp2_with fail
      refine HG.out.mono ?_
      rintro e w4 ⟨rfl, hb4⟩
      have HLI4 := Lib.hid (HLI3.out.below hb4)
      have HB4 := Lib.hid (below_up HB3.out hb4)
      clear hb4 HG HLI3
      cases hgood : goodB es' c
      · go_wp2
        go_ret
        exact ⟨rfl, HB4.out⟩
      have HGOOD := Lib.hid hgood
      clear hgood
      have hgl := (good_parts HGOOD.out).2.1
      have HD := Lib.hid (directories_any es' u w4 HLI4.out (by omega) (fun e he => by
        have := (entryOk_small (List.all_eq_true.1 (good_parts HGOOD.out).1 e he)).1.name; omega))
      go_wp2_with fail
      refine HD.out.mono ?_
      rintro e w5 ⟨rfl, hb5⟩
      have HLI5 := Lib.hid (HLI4.out.below hb5)
      have HB5 := Lib.hid (below_up HB4.out hb5)
      clear hb5 HD HLI4
      cases hdir : directoriesB es'
      · go_wp2
        go_ret
        exact ⟨rfl, HB5.out⟩
      have HDIR := Lib.hid hdir
      clear hdir
      by_cases hm1 : before.length ≤ 1048576
      · have hm1' : ¬ (1048576 : Int) < before.length := by omega
        obtain ⟨D, hD⟩ : ∃ D, D = before ++ archiveL es' c := ⟨_, rfl⟩
        have hDl : D.length ≤ 4611686018427387904 := by rw [hD, List.length_append]; omega
        have HEN := Lib.hid (ends_any D w5 hDl)
        obtain ⟨n, hn⟩ : ∃ n, n = endsL D := ⟨_, rfl⟩
        rw [← hn] at HEN
        rw [← hD]
        clear hal
        have hDD := Lib.hid hD
        clear hD
        by_cases hn1 : n = 1
        · subst hn1
          have HN := Lib.hid hn
          have HFL := Lib.hid (files_any es' u w5 HLI5.out (by omega) (fun x hx => (entryOk_small (List.all_eq_true.1 (good_parts HGOOD.out).1 x hx)).1) (by omega))
          have HAT := Lib.hid (fun w' => at_any D [80, 75, 1, 2] (filesL es').length w' hDl (by omega) (by decide))
          obtain ⟨ab, hab⟩ : ∃ b, b = atB D (filesL es').length [80, 75, 1, 2] := ⟨_, rfl⟩
          rw [← hab] at HAT
          have HAB := Lib.hid hab
          clear hn hab
          by_cases hskip : ab = true ∧ before.isEmpty = false
          · obtain ⟨rfl, hemp⟩ := hskip
            go_wp2_with (first
              | (go_at_call 24; refine HEN.out.mono ?_; rintro r w6 ⟨rfl, rfl⟩)
              | (go_at_call 26; refine HFL.out.mono ?_; rintro r w7 ⟨rfl, hb7⟩)
              | (go_at_call 25; refine (HAT.out _).mono ?_; rintro r w8 ⟨rfl, rfl⟩))
            all_goals (
              go_ret
              exact ⟨rfl, below_up HB5.out hb7⟩)
          · have hbad : before = [] ∨ Stops (D.drop (filesL es').length) := by
              cases ab with
              | false => exact .inr (stops_not_at HAB.out.symm)
              | true =>
                cases hemp : before.isEmpty with
                | true => exact .inl (List.isEmpty_iff.1 hemp)
                | false => exact absurd ⟨rfl, hemp⟩ hskip
            have hL : Lay D before (filesL es') (dirL es' 0) c [] es'.length := lay_of HGOOD.out (by omega) (by rw [hDD.out]; simp [archiveL]) (by omega) (by simp) HN.out.symm
            have HBAD := Lib.hid hbad
            have HLAY := Lib.hid hL
            clear hbad hL
            have hcase : ab = false ∨ (ab = true ∧ before.isEmpty = true) := by
              cases ab with
              | false => exact .inl rfl
              | true =>
                cases hemp : before.isEmpty with
                | true => exact .inr ⟨rfl, rfl⟩
                | false => exact absurd ⟨rfl, hemp⟩ hskip
            clear hskip HAB
            have HRDA : Hid (∀ w', Below w5.heap.size w5 w' → Calls Tryz.prog 28 #[.string (B D)] w' (IsOk c (es'.map toldE) w')) := Lib.hid fun w' hb => read_lay w' (HE.out.below (below_up HB5.out hb)) HGOOD.out HLAY.out HBAD.out
            have HLIA : Hid (∀ w', Below w5.heap.size w5 w' → IsList w' u es') := Lib.hid fun w' hb => HLI5.out.below hb
            have HCTA : Hid (∀ kk (h : kk < es'.length) w', Below w5.heap.size w5 w' → (es'[kk].hdr.method = 0 → slash es'[kk].hdr.name = false → es'[kk].hdr.packed = (es'[kk].data.length : Int) ∧ (es'[kk].data.length : Int) ≤ es'[kk].hdr.size ∧ (bits .and .u16 es'[kk].hdr.flags 8 != 0) = false) → Calls Tryz.prog 20 #[.string (B D), .int .i64 kk] w' (ContentPost es'[kk].hdr es'[kk].data w')) := Lib.hid fun kk h w' hb hst => content_good (w := w') (HE.out.below (below_up HB5.out hb)) HGOOD.out HLAY.out HBAD.out h hst
            obtain ⟨ux, ucap, huf⟩ : ∃ x cap, u = .slice x es'.length cap := by
              obtain ⟨x, cap, h, _⟩ := HLI5.out
              exact ⟨x, cap, h⟩
            subst huf
            by_cases hk0 : k < 0
            · rcases hcase with rfl | ⟨rfl, hemp⟩
              all_goals (
                go_wp2_with (first
                  | (go_at_call 24; refine HEN.out.mono ?_; rintro r w6 ⟨rfl, rfl⟩)
                  | (go_at_call 26; refine HFL.out.mono ?_; rintro r w7 ⟨rfl, hb7⟩; have HC7 := Lib.hid hb7; clear hb7)
                  | (go_at_call 25; refine (HAT.out _).mono ?_; rintro r w8 ⟨rfl, rfl⟩))
                have HRDW := Lib.hid (HRDA.out w7 HC7.out)
                clear HRDA HCTA
                go_wp2_with fail
                refine HRDW.out.mono ?_
                rintro r wr1 ⟨vr, rfl, hOr, hbr1⟩
                have HBr1 := Lib.hid (below_up (below_up HB5.out HC7.out) hbr1.out)
                have HLS := Lib.hid (listed_any es' _ wr1 ((HLIA.out w7 HC7.out).below hbr1.out) (by omega) (fun x hx => HOk.of (by
                  have := List.all_eq_true.1 (good_parts HGOOD.out).1 x hx
                  simp only [entryOk, Bool.and_eq_true] at this
                  exact this.1)))
                clear HRDW hbr1
                go_wp2_with fail
                refine HLS.out.mono ?_
                rintro r wr2 ⟨vr2, rfl, hOr2, hbr2⟩
                have HBr2 := Lib.hid (below_up HBr1.out hbr2)
                have HSA := Lib.hid (same_any (es'.map toldE) c vr vr2 wr2 ((isHdrs_own hOr.out).below hbr2) (isHdrs_own (by rw [List.length_map]; exact hOr2)) (by rw [List.length_map]; omega))
                clear HLS hOr hOr2 hbr2
                go_wp2_with (first
                  | (go_at_call 27; refine HSA.out.mono ?_; rintro r wr3 ⟨rfl, hbr3⟩)
                  | (go_at_call 23; refine (reads_any (E0 := E0) (N0 := N0) _ (HE.out.below (below_up HBr2.out hbr3))).mono ?_; rintro r wr4 ⟨rfl, hbr4⟩))
                all_goals (
                  go_ret
                  exact ⟨rfl, below_up (below_up HBr2.out hbr3) hbr4⟩))
            obtain ⟨kk, rfl⟩ := Int.eq_ofNat_of_zero_le (by omega : 0 ≤ k)
            clear hk0
            by_cases hk1 : kk < es'.length
            · obtain ⟨b, off, cap, hue, hblt, hr⟩ := HLI5.out.at hk1
              cases hue
              obtain ⟨e, he⟩ : ∃ e, e = es'[kk] := ⟨_, rfl⟩
              rw [← he] at hr
              have HEQ := Lib.hid he
              clear he
              have HSI := Lib.hid (fun w' => simple_any e.hdr w')
              cases hsm : simpleB e.hdr
              · rw [hsm] at HSI
                rcases hcase with rfl | ⟨rfl, hemp⟩
                all_goals (
                  go_wp2_with (first
                    | (go_at_call 24; refine HEN.out.mono ?_; rintro r w6 ⟨rfl, rfl⟩)
                    | (go_at_call 26; refine HFL.out.mono ?_; rintro r w7 ⟨rfl, hb7⟩; have hrh : w7.rangeAt b (off + kk * 15) e.hdr.cells := rangeAt_part (n := 0) (rangeAt_below hb7 hr hblt) rfl; have HC7 := Lib.hid hb7; clear hb7)
                    | (go_at_call 25; refine (HAT.out _).mono ?_; rintro r w8 ⟨rfl, rfl⟩)
                    | (refine wpList_load_want 26 _ rfl b (off + kk * 15) rfl e.hdr.cells _ hrh Tryz.underlying26 rfl sizeHdr rfl ?_)
                    | (go_at_call 19; refine (HSI.out _).mono ?_; rintro r w9 ⟨rfl, hb9⟩; have HC9 := Lib.hid (below_up HC7.out hb9); clear hb9))
                  have HRDW := Lib.hid (HRDA.out w9 HC9.out)
                  clear HRDA HCTA
                  go_wp2_with fail
                  refine HRDW.out.mono ?_
                  rintro r wr1 ⟨vr, rfl, hOr, hbr1⟩
                  have HBr1 := Lib.hid (below_up (below_up HB5.out HC9.out) hbr1.out)
                  have HLS := Lib.hid (listed_any es' _ wr1 ((HLIA.out w9 HC9.out).below hbr1.out) (by omega) (fun x hx => HOk.of (by
                    have := List.all_eq_true.1 (good_parts HGOOD.out).1 x hx
                    simp only [entryOk, Bool.and_eq_true] at this
                    exact this.1)))
                  clear HRDW hbr1
                  go_wp2_with fail
                  refine HLS.out.mono ?_
                  rintro r wr2 ⟨vr2, rfl, hOr2, hbr2⟩
                  have HBr2 := Lib.hid (below_up HBr1.out hbr2)
                  have HSA := Lib.hid (same_any (es'.map toldE) c vr vr2 wr2 ((isHdrs_own hOr.out).below hbr2) (isHdrs_own (by rw [List.length_map]; exact hOr2)) (by rw [List.length_map]; omega))
                  clear HLS hOr hOr2 hbr2
                  go_wp2_with (first
                    | (go_at_call 27; refine HSA.out.mono ?_; rintro r wr3 ⟨rfl, hbr3⟩)
                    | (go_at_call 23; refine (reads_any (E0 := E0) (N0 := N0) _ (HE.out.below (below_up HBr2.out hbr3))).mono ?_; rintro r wr4 ⟨rfl, hbr4⟩))
                  all_goals (
                    go_ret
                    exact ⟨rfl, below_up (below_up HBr2.out hbr3) hbr4⟩))
              · rw [hsm] at HSI
                obtain ⟨e1, he1⟩ : ∃ e1, e1 ∈ es ∧ e = storedE e1 := by
                  have := List.getElem_mem hk1
                  rw [← HEQ.out, HES.out, List.mem_map] at this
                  obtain ⟨x, hx, hx2⟩ := this
                  exact ⟨x, hx, hx2.symm⟩
                have hok : entryOk e = true := by
                  rw [HEQ.out]; exact List.all_eq_true.1 (good_parts HGOOD.out).1 _ (List.getElem_mem hk1)
                have hbit : (bits .and .u16 e.hdr.flags 8 != 0) = false := by
                  refine simple_bit ?_ hsm
                  simp only [entryOk, Bool.and_eq_true] at hok
                  exact (HOk.of hok.1).flags
                have hst : es'[kk].hdr.method = 0 → slash es'[kk].hdr.name = false → es'[kk].hdr.packed = (es'[kk].data.length : Int) ∧ (es'[kk].data.length : Int) ≤ es'[kk].hdr.size ∧ (bits .and .u16 es'[kk].hdr.flags 8 != 0) = false := by
                  rw [← HEQ.out]
                  intro _ _
                  refine ⟨?_, ?_, hbit⟩
                  · rw [he1.2]; rfl
                  · rw [he1.2]; exact Int.le_refl _
                have HCT : Hid (∀ w', Below w5.heap.size w5 w' → Calls Tryz.prog 20 #[.string (B D), .int .i64 kk] w' (ContentPost e.hdr e.data w')) := Lib.hid (by
                  intro w' hb
                  have := HCTA.out kk hk1 w' hb hst
                  rw [← HEQ.out] at this
                  exact this)
                have HHE : Hid (e.hdr.method = 0 ∧ e.hdr.size = (e.data.length : Int) ∧ e.hdr.crc = crc e.data) := Lib.hid (by rw [he1.2]; exact ⟨rfl, rfl, rfl⟩)
                have HSL : Hid (slash e.hdr.name = true → e.data = []) := Lib.hid (by rw [HEQ.out]; exact dirOk_of HDIR.out hk1)
                clear hst hbit hok he1 hsm HEQ
                rcases hcase with rfl | ⟨rfl, hemp⟩
                all_goals (
                  go_wp2_with (first
                    | (go_at_call 24; refine HEN.out.mono ?_; rintro r w6 ⟨rfl, rfl⟩)
                    | (go_at_call 26; refine HFL.out.mono ?_; rintro r w7 ⟨rfl, hb7⟩; have hrh : w7.rangeAt b (off + kk * 15) e.hdr.cells := rangeAt_part (n := 0) (rangeAt_below hb7 hr hblt) rfl; have HC7 := Lib.hid hb7; clear hb7)
                    | (go_at_call 25; refine (HAT.out _).mono ?_; rintro r w8 ⟨rfl, rfl⟩)
                    | (refine wpList_load_want 26 _ rfl b (off + kk * 15) rfl e.hdr.cells _ hrh Tryz.underlying26 rfl sizeHdr rfl ?_)
                    | (go_at_call 19; refine (HSI.out _).mono ?_; rintro r w9 ⟨rfl, hb9⟩; have HC9 := Lib.hid (below_up HC7.out hb9); clear hb9 hrh))
                  refine (HCT.out _ HC9.out).mono ?_
                  rintro r w10 ⟨l, n, rfl, hn, hb10⟩
                  have HC10 := Lib.hid (below_up HC9.out hb10.out)
                  have hr10 := rangeAt_below HC10.out hr hblt
                  have hcd : w10.cell? ⟨b, off + kk * 15 + 14, none⟩ = some (.string (B e.data)) := hr10 14 _ rfl
                  have hln : l = e.data ∧ n = 0 := by
                    obtain ⟨q1, q2, q3⟩ := hn.out
                    obtain ⟨h1, h2, h3⟩ := HHE.out
                    cases hs : slash e.hdr.name
                    · obtain ⟨r1, r2, r3, r4⟩ := q3 hs h1
                      have := r4 h2 (.inr h3.symm)
                      exact ⟨r1 this, this⟩
                    · have h4 := HSL.out hs
                      obtain ⟨r1, r2⟩ := q1 hs
                      have := r1 (by rw [h2, h4]; rfl)
                      rw [h4]; exact this
                  obtain ⟨rfl, rfl⟩ := hln
                  clear hn hb10 hr10 hr HCT
                  have HRDW := Lib.hid (HRDA.out w10 HC10.out)
                  clear HRDA HCTA
                  go_wp2_with fail
                  refine HRDW.out.mono ?_
                  rintro r wr1 ⟨vr, rfl, hOr, hbr1⟩
                  have HBr1 := Lib.hid (below_up (below_up HB5.out HC10.out) hbr1.out)
                  have HLS := Lib.hid (listed_any es' _ wr1 ((HLIA.out w10 HC10.out).below hbr1.out) (by omega) (fun x hx => HOk.of (by
                    have := List.all_eq_true.1 (good_parts HGOOD.out).1 x hx
                    simp only [entryOk, Bool.and_eq_true] at this
                    exact this.1)))
                  clear HRDW hbr1
                  go_wp2_with fail
                  refine HLS.out.mono ?_
                  rintro r wr2 ⟨vr2, rfl, hOr2, hbr2⟩
                  have HBr2 := Lib.hid (below_up HBr1.out hbr2)
                  have HSA := Lib.hid (same_any (es'.map toldE) c vr vr2 wr2 ((isHdrs_own hOr.out).below hbr2) (isHdrs_own (by rw [List.length_map]; exact hOr2)) (by rw [List.length_map]; omega))
                  clear HLS hOr hOr2 hbr2
                  go_wp2_with (first
                    | (go_at_call 27; refine HSA.out.mono ?_; rintro r wr3 ⟨rfl, hbr3⟩)
                    | (go_at_call 23; refine (reads_any (E0 := E0) (N0 := N0) _ (HE.out.below (below_up HBr2.out hbr3))).mono ?_; rintro r wr4 ⟨rfl, hbr4⟩))
                  all_goals (
                    go_ret
                    exact ⟨rfl, below_up (below_up HBr2.out hbr3) hbr4⟩))
            · rcases hcase with rfl | ⟨rfl, hemp⟩
              all_goals (
                go_wp2_with (first
                  | (go_at_call 24; refine HEN.out.mono ?_; rintro r w6 ⟨rfl, rfl⟩)
                  | (go_at_call 26; refine HFL.out.mono ?_; rintro r w7 ⟨rfl, hb7⟩; have HC7 := Lib.hid hb7; clear hb7)
                  | (go_at_call 25; refine (HAT.out _).mono ?_; rintro r w8 ⟨rfl, rfl⟩))
                have HRDW := Lib.hid (HRDA.out w7 HC7.out)
                clear HRDA HCTA
                go_wp2_with fail
                refine HRDW.out.mono ?_
                rintro r wr1 ⟨vr, rfl, hOr, hbr1⟩
                have HBr1 := Lib.hid (below_up (below_up HB5.out HC7.out) hbr1.out)
                have HLS := Lib.hid (listed_any es' _ wr1 ((HLIA.out w7 HC7.out).below hbr1.out) (by omega) (fun x hx => HOk.of (by
                  have := List.all_eq_true.1 (good_parts HGOOD.out).1 x hx
                  simp only [entryOk, Bool.and_eq_true] at this
                  exact this.1)))
                clear HRDW hbr1
                go_wp2_with fail
                refine HLS.out.mono ?_
                rintro r wr2 ⟨vr2, rfl, hOr2, hbr2⟩
                have HBr2 := Lib.hid (below_up HBr1.out hbr2)
                have HSA := Lib.hid (same_any (es'.map toldE) c vr vr2 wr2 ((isHdrs_own hOr.out).below hbr2) (isHdrs_own (by rw [List.length_map]; exact hOr2)) (by rw [List.length_map]; omega))
                clear HLS hOr hOr2 hbr2
                go_wp2_with (first
                  | (go_at_call 27; refine HSA.out.mono ?_; rintro r wr3 ⟨rfl, hbr3⟩)
                  | (go_at_call 23; refine (reads_any (E0 := E0) (N0 := N0) _ (HE.out.below (below_up HBr2.out hbr3))).mono ?_; rintro r wr4 ⟨rfl, hbr4⟩))
                all_goals (
                  go_ret
                  exact ⟨rfl, below_up (below_up HBr2.out hbr3) hbr4⟩))
        · have hn1b : ((n : Int) != 1) = true := by rw [bne_iff_ne]; omega
          clear hn hn1 hDl
          go_wp2_with (go_at_call 24; refine HEN.out.mono ?_; rintro r w8 ⟨rfl, rfl⟩)
          all_goals (
            go_ret
            exact ⟨rfl, HB5.out⟩)
      · have hm1' : (1048576 : Int) < before.length := by omega
        go_wp2
        go_ret
        exact ⟨rfl, HB5.out⟩
    · have hml' : (2147483647 : Int) < before.length := by omega
      go_wp2
      go_ret
      exact ⟨rfl, HB1.out⟩
  · have hcl' : (2147483647 : Int) < c.length := by omega
    go_wp2
    go_ret
    exact ⟨rfl, HB1.out⟩
end Go.Proofs.Zip
namespace Go.Proofs.YtiipmnaonidojaaGreatDoor
open Go Go.ChangeShapes Go.WideShapes Go.ChangeAt Go.RowKit Go.Proofs.Zip Go.Deep
namespace fnAhead
abbrev fid : Nat := 9
theorem laid_same : Rows.fnAheadRow.laid = laidL := rfl
set_option maxRecDepth 100000 in
/-- What the walk gives, for every input that can be read. -/
theorem contract (H : Type) (enc : TypeId × Value → H) (W : World) (base : Nat) (args : Array Value) (ds gs : List (DataW H)) (before : List MemPlace)
    (hval : ∀ (j : Nat) t v, Tryz.f9.params[j]? = some t → args[j]? = some v → Value.okWide Tryz.prog W .any base t v)
    (hW : DataW.Whole enc Tryz.prog Tryz.f9.params.toList Rows.fnAheadSpec.vars false W args.toList ds gs before) (hL : laidMetH Tryz.prog Rows.fnAheadRow.laid W) (hbk0 : Rows.uptoSmall H (ds ++ gs) = true) :
    Calls Tryz.prog 9 args W fun e W' => ∃ v, e = .returned v ∧ Rows.fnAheadSpec.post enc Tryz.prog Tryz.f9 false true false false W args v W' := by
  have hW' := hW
  have hbk : Rows.uptoBulkAll (ds ++ gs) ≤ 1048576 := of_decide_eq_true hbk0
  clear hbk0
  obtain ⟨p, q, hA0, hV, rfl, _, _⟩ := hW
  have hA : DataW.TrodAll enc Tryz.prog W 0 (fun _ => true) true Tryz.f9.params.toList args.toList ds p := hA0
  rw [Tryz.params9] at hA hval
  obtain ⟨v0, vs0, d0, ds0, p0, q0, hargs, rfl, rfl, h0, r0⟩ := trodAll_cons hA
  obtain ⟨v1, vs1, d1, ds1, p1, q1, rfl, rfl, rfl, h1, r1⟩ := trodAll_cons r0
  obtain ⟨v2, vs2, d2, ds2, p2, q2, rfl, rfl, rfl, h2, r2⟩ := trodAll_cons r1
  obtain ⟨v3, vs3, d3, ds3, p3, q3, rfl, rfl, rfl, h3, r3⟩ := trodAll_cons r2
  obtain ⟨rfl, rfl, rfl⟩ := trodAll_nil r3
  obtain rfl : args = #[v0, v1, v2, v3] := by cases args; simp_all
  obtain ⟨E0, hE⟩ : ∃ E0, Env W W.heap.size E0 := by
    rw [laid_same] at hL
    rw [MakeChecks.laidMetH_plain _ _ _ (by kernel_rfl)] at hL
    exact env_of hL
  have hk0 := h0
  have hk1 := h1
  have hk2 := h2
  have hk3 := h3
  obtain ⟨es0, hes0, len0, bulk0⟩ := rd_listB h0 (okWide_slice Tryz.underlying22 (hval 0 22 v0 rfl rfl))
  obtain ⟨c1, rfl, hc1⟩ : ∃ l : List UInt8, v1 = .string (B l) ∧ l.length ≤ 9223372036854775807 := rd_text h1 (hval 1 9 v1 rfl rfl)
  obtain ⟨c2, rfl, hc2⟩ : ∃ l : List UInt8, v2 = .string (B l) ∧ l.length ≤ 9223372036854775807 := rd_text h2 (hval 2 9 v2 rfl rfl)
  obtain ⟨n3, rfl, -, -, wf3⟩ := open_int Tryz.underlying3 (hval 3 3 v3 rfl rfl) h3
  have hlt : ∀ x ∈ ((p0 ++ (p1 ++ (p2 ++ (p3 ++ []))))) ++ q, x.block < W.heap.size := fun x hx => by simpa using hW'.lt x (by simpa using hx)
  simp only [List.cons_append, Rows.uptoBulkAll] at hbk
  refine (ahead_any es0 c1 c2 n3 v0 W hE hes0 (by omega) hc1 hc2 (by omega)).mono fun e W' ⟨he, hb⟩ => ?_
  subst he
  have hV' := Below.trodVars laidOut hb varsOk hV
  obtain ⟨g1, g2, g3, g4, rfl⟩ := four_of_vars hV
  refine ⟨_, rfl, _, _, _, [], p0 ++ (p1 ++ (p2 ++ (p3 ++ ([])))), q, hW', trodAll_cons_mk (shut_bool Tryz.underlying4 true) trodAll_mk0, ?_, hV', hb.frame _, fun h => by cases h⟩
  exact trodAll_cons_mk (Below.trod laidOut (by kernel_rfl) (of_decide_eq_true (by kernel_rfl)) hk0 hb (fun x hx => hlt x (by simp [hx]))) (trodAll_cons_mk (Below.trod laidOut (by kernel_rfl) (of_decide_eq_true (by kernel_rfl)) hk1 hb (fun x hx => hlt x (by simp [hx]))) (trodAll_cons_mk (Below.trod laidOut (by kernel_rfl) (of_decide_eq_true (by kernel_rfl)) hk2 hb (fun x hx => hlt x (by simp [hx]))) (trodAll_cons_mk (Below.trod laidOut (by kernel_rfl) (of_decide_eq_true (by kernel_rfl)) hk3 hb (fun x hx => hlt x (by simp [hx]))) (trodAll_mk0))))
/-- An input that fits. -/
noncomputable abbrev wit (os : Os) : World := ((World.laidAll Tryz.prog os Rows.fnAheadUptoRow.laid).forCall (fun _ _ => 0) ⟨#[], #[.slice none 0 0, .string ByteArray.empty, .string ByteArray.empty, .int .i64 0], []⟩)
set_option maxRecDepth 100000 in
theorem wit_reads (os : Os) {H : Type} (enc : TypeId × Value → H) : (DataW.whole enc Tryz.prog (wit os).memory Tryz.f9.params.toList (Rows.OpenSpec.upto Rows.fnAheadSpec).vars false (#[.slice none 0 0, .string ByteArray.empty, .string ByteArray.empty, .int .i64 0] : Array Value).toList 8).isSome = true := by kernel_rfl
set_option maxRecDepth 100000 in
theorem wit_small (os : Os) {H : Type} (enc : TypeId × Value → H) : ((DataW.whole enc Tryz.prog (wit os).memory Tryz.f9.params.toList (Rows.OpenSpec.upto Rows.fnAheadSpec).vars false (#[.slice none 0 0, .string ByteArray.empty, .string ByteArray.empty, .int .i64 0] : Array Value).toList 8).map fun x => Rows.uptoSmall H (x.1 ++ x.2.1)) = some true := by kernel_rfl
set_option maxRecDepth 100000 in
theorem wit_row (os : Os) {H : Type} (enc : TypeId × Value → H) : (Rows.OpenSpec.upto Rows.fnAheadSpec).preRow enc Tryz.prog Tryz.f9 Rows.fnAheadUptoRow.domain false Rows.fnAheadUptoRow.laid (wit os).memory #[.slice none 0 0, .string ByteArray.empty, .string ByteArray.empty, .int .i64 0] := by
  obtain ⟨x, hx⟩ := Option.isSome_iff_exists.1 (wit_reads os enc)
  have hs := wit_small os enc
  rw [hx] at hs
  exact OpenSpec.preRow_of_cond 8 hx rfl (fun k hk => by cases hk; exact Option.some.inj hs) (by kernel_rfl)
    (by rw [MakeChecks.laidMetH_plain _ _ _ (by kernel_rfl)]; exact laidMet_laidAll _ (by kernel_rfl) (by kernel_rfl))
set_option maxRecDepth 100000 in
theorem lifted (os : Os) (started : os.Started) (H : Type) (enc : TypeId × Value → H) (F : Stop.Interp) :
    ReturnsInHanded {} Tryz.checked os 9 .any ((Rows.OpenSpec.upto Rows.fnAheadSpec).preRow enc Tryz.prog Tryz.f9 Rows.fnAheadUptoRow.domain false Rows.fnAheadUptoRow.laid) (((Rows.OpenSpec.upto Rows.fnAheadSpec).at F).post enc Tryz.prog Tryz.f9 false true false false) := by
  refine returnsInHanded_of_row (C := Tryz.checked) (s := Rows.OpenSpec.upto Rows.fnAheadSpec) own started (by kernel_rfl) Tryz.func9
    ⟨World.laidAll Tryz.prog os Rows.fnAheadUptoRow.laid, fun _ _ => 0, ⟨#[], #[.slice none 0 0, .string ByteArray.empty, .string ByteArray.empty, .int .i64 0], []⟩, World.laidAll_os _ _ _, World.shaped_of_ZipB (by kernel_rfl) (by kernel_rfl), rfl, ?_, wit_row os enc, ?_⟩ ?_
  · exact (Input.okWide_of_okWideB (by kernel_rfl)).2
  · simp only [Assume.holds]
    exact ⟨by simp, by simp, fun _ => Modest.zero, by simp, by simp⟩
  · intro W base args ds gs before hval hW _ hcond _ hL _ _
    exact contract H enc W base args ds gs before hval hW hL (hcond _ rfl)
set_option maxRecDepth 100000 in
set_option maxHeartbeats 8000000 in
theorem closed : joinedFacts Tryz.pinned.checked.prog 9 Tryz.f9 (Rows.OpenSpec.upto Rows.fnAheadSpec).bare Rows.fnAheadUptoRow = true := by
  unfold joinedFacts
  rw [show Tryz.pinned.checked.prog = Tryz.prog from rfl, head_enter, head_final, head_make]
  repeat' (with_reducible refine Bool.and_eq_true_iff.2 ⟨?_, ?_⟩)
  all_goals as_aux_lemma => kernel_rfl
theorem wrapped : Tryz.f9.isWrapper Tryz.pinned.checked.prog Rows.fnAheadUptoRow.wrapper Rows.fnAheadUptoRow.mainSum := by unfold Func.isWrapper; first | (rw [if_pos (by decide +kernel)]; kernel_rfl) | (rw [if_neg (by decide +kernel)]; exact ⟨rfl, rfl⟩)
set_option maxRecDepth 100000 in
theorem said : Rows.FnAheadUptoSaid :=
  OpenClaim.holds_of_cond 9 Tryz.f9 rfl rfl rfl rfl rfl rfl rfl ⟨rfl, rfl, rfl, rfl, rfl⟩ rfl rfl rfl rfl rfl (by kernel_rfl) Tryz.func9 closed
    (of_decide_eq_true (by kernel_rfl)) wrapped
    (fun os started H enc _ F => by rw [OpenClaim.pre_eq_preRow]; exact lifted os started H enc F)
/-- No parameter wants a stand-in. -/
theorem plain (f : FuncId) (fn : Func) (hf : Tryz.pinned.checked.prog.funcNamed "loop.example/pub-ziparchives/laws.FnAhead" = some f) (hfn : Tryz.pinned.checked.prog.funcs[f]? = some fn) :
    true = Tryz.pinned.checked.prog.looks [] ∧ ∀ (j : Nat) t, fn.params[j]? = some t → Tryz.pinned.checked.prog.wantsStandIn t = false := by
  obtain rfl : f = 9 := Option.some.inj ((show Tryz.prog.funcNamed "loop.example/pub-ziparchives/laws.FnAhead" = some 9 by kernel_rfl).symm.trans hf) |>.symm
  obtain rfl : fn = Tryz.f9 := (Option.some.inj (Tryz.func9.symm.trans hfn)).symm
  refine ⟨by kernel_rfl, fun j t ht => ?_⟩
  rw [Tryz.params9] at ht
  have hm : t ∈ [22, 9, 9, 3] := by simpa using Array.mem_of_getElem? ht
  have hall : ([22, 9, 9, 3].all fun u => !Tryz.prog.wantsStandIn u) = true := by kernel_rfl
  exact (show Tryz.prog.wantsStandIn t = false by simpa using List.all_eq_true.1 hall t hm)
set_option maxRecDepth 100000 in
/-- THE CARD. -/
theorem card : Rows.FnAheadUptoCardSaid :=
  Claim7.holds_tied_plain_at .later [] _ _ _ _ said (fun _ h => by cases h) (by kernel_rfl) (fun _ h => by cases h) fnAheadUpto_row_tie rfl ⟨rfl, rfl⟩ head_main rfl plain (by kernel_rfl)
end fnAhead
end Go.Proofs.YtiipmnaonidojaaGreatDoor
