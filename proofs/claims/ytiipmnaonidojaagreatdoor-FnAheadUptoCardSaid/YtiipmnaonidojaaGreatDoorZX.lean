/- A part of a proof over the given program: LawER, LawBH, RowU. Nothing is assumed here. -/
import Derived.Test.YtiipmnaonidojaaGreatDoorZW
import Derived.Test.YtiipmnaonidojaaGreatDoorZS
import Derived.Test.YtiipmnaonidojaaGreatDoorZR
import Derived.Deep.DeepHandedRow
import Derived.JoinedCond
namespace Go.Proofs.Zip
open Go Go.RowKit
/-- A good archive is read. -/
theorem read_good {N0 : Nat} {E0 : Errs} {es : List E} {c : List UInt8} (w : World) (hE : Env w N0 E0) (hg : goodB es c = true) : Calls Tryz.prog 28 #[.string (B (archiveL es c))] w (IsOk c (es.map toldE) w) := by
  have hL := good_lay hg
  obtain ⟨b, k, hA, hp⟩ := arc_good hg hL (.inl rfl)
  have hc : (hsOf es 0).length = n2 (archiveL es c) ((archiveL es c).length - b + k + 10) := by
    rw [hsOf_length, hp, hL.n2 10 (by omega), hL.ebytes.f10]
  have h := readOk_any _ b k N0 _ _ (hsOf es 0) E0 w hE hA hc
  rw [told_list es (good_parts hg).1, hp, hL.comment] at h
  exact h
set_option maxRecDepth 100000 in
set_option maxHeartbeats 1000000 in
theorem exactRead_any {N0 : Nat} {E0 : Errs} (es : List E) (c : List UInt8) (v : Value) (w : World) (hE : Env w N0 E0) (hv : IsList w v es) (hlen : es.length ≤ 9223372036854775807) (hc : c.length ≤ 9223372036854775807) :
    Calls Tryz.prog 13 #[v, .string (B c)] w fun e w' => e = .returned (.bool true) ∧ Below w.heap.size w w' := by
  have HFT := Lib.hid (fits1_any es v w hv hlen)
  have HE := Lib.hid hE
  have HV := Lib.hid hv
  obtain ⟨fa, fcap, rfl, -⟩ := hv
  clear hE
  go_enter Tryz.func13, Tryz.ntmps13
  go_wp2_with fail
  refine HFT.out.mono ?_
  rintro e w1 ⟨rfl, hb1⟩
  have HB1 := Lib.hid hb1
  have HV1 := Lib.hid (HV.out.below hb1)
  clear hb1 HFT HV
  cases hft : fits1 es
  · go_wp2
    go_ret
    exact ⟨rfl, HB1.out⟩
  obtain ⟨hl1, hl2⟩ := fits1_small hft
  clear hft hl2
  by_cases hcl : c.length ≤ 2147483647
  · have hcl' : ¬ (2147483647 : Int) < c.length := by omega
    have HG := Lib.hid (good_any es c _ w1 HV1.out (by omega) (by omega))
    go_wp2_with fail
    refine HG.out.mono ?_
    rintro r w4 ⟨rfl, hb4⟩
    have HV4 := Lib.hid (HV1.out.below hb4)
    have HB4 := Lib.hid (below_up HB1.out hb4)
    clear hb4 HG HV1
    cases hgood : goodB es c
    · go_wp2
      go_ret
      exact ⟨rfl, HB4.out⟩
    have HGOOD := Lib.hid hgood
    clear hgood
    have hgl := (good_parts HGOOD.out).2.1
    have HAR := Lib.hid (archive_good HGOOD.out _ w4 HV4.out)
    go_wp2_with fail
    refine HAR.out.mono ?_
    rintro r w5 ⟨rfl, hb5⟩
    have HB5 := Lib.hid (below_up HB4.out hb5)
    have HV5 := Lib.hid (HV4.out.below hb5)
    have HRD := Lib.hid (read_good (N0 := N0) (E0 := E0) w5 (HE.out.below HB5.out) HGOOD.out)
    clear hb5 HAR HV4
    go_wp2_with fail
    refine HRD.out.mono ?_
    rintro r w6 ⟨u, rfl, hO6, hb6⟩
    have HB6 := Lib.hid (below_up HB5.out hb6.out)
    have HLS := Lib.hid (listed_any es _ w6 (HV5.out.below hb6.out) (by omega) (fun x hx => HOk.of (by
      have := List.all_eq_true.1 (good_parts HGOOD.out).1 x hx
      simp only [entryOk, Bool.and_eq_true] at this
      exact this.1)))
    clear HRD hb6
    go_wp2_with fail
    refine HLS.out.mono ?_
    rintro r w7 ⟨u2, rfl, hO7, hb7⟩
    have HB7 := Lib.hid (below_up HB6.out hb7)
    have HSA := Lib.hid (same_any (es.map toldE) c u u2 w7 ((isHdrs_own hO6.out).below hb7) (isHdrs_own (by rw [List.length_map]; exact hO7)) (by rw [List.length_map]; omega))
    clear HLS hO6 hO7 hb7
    go_wp2_with (first
      | (go_at_call 27; refine HSA.out.mono ?_; rintro r w8 ⟨rfl, hb8⟩)
      | (go_at_call 23; refine (reads_any (E0 := E0) (N0 := N0) _ (HE.out.below (below_up HB7.out hb8))).mono ?_; rintro r w9 ⟨rfl, hb9⟩))
    all_goals (
      go_ret
      exact ⟨rfl, below_up (below_up HB7.out hb8) hb9⟩)
  · have hcl' : (2147483647 : Int) < c.length := by omega
    go_wp2
    go_ret
    exact ⟨rfl, HB1.out⟩
end Go.Proofs.Zip
namespace Go.Proofs.Zip
open Go Go.RowKit
/-- What zzFits1 gives of the headers. -/
theorem fits1_hdrs {es : List E} (h : fits1 es = true) : ∀ e ∈ es, Small e.hdr ∧ e.data.length ≤ 4611686018427387904 := by
  simp only [fits1, Bool.and_eq_true, decide_eq_true_eq, List.all_eq_true, fits2, fits3] at h
  intro e he
  have := h.2 e he
  exact ⟨⟨by omega, by omega, by omega⟩, by omega⟩
/-- The texts of entries, all their lengths. -/
def bulkE : List E → Nat
  | [] => 0
  | e :: es => e.hdr.name.length + e.hdr.comment.length + e.hdr.extra.length + e.data.length + bulkE es
theorem filesL_bulk (es : List E) : (filesL es).length ≤ 30 * es.length + bulkE es := by
  induction es with
  | nil => simp [filesL, bulkE]
  | cons e es ih =>
    rw [filesL_cons, List.length_append, List.length_append, length_localL, List.length_cons, bulkE]
    omega
theorem dirL_bulk (es : List E) : ∀ a, (dirL es a).length ≤ 46 * es.length + bulkE es := by
  induction es with
  | nil => intro a; simp [dirL, bulkE]
  | cons e es ih =>
    intro a
    rw [dirL, List.length_append, length_centralL, List.length_cons, bulkE]
    have := ih (wrap64 (a + ((localL e.hdr).length + e.data.length : Nat)))
    omega
/-- A good list's archive between other texts is read. -/
theorem read_lay {N0 : Nat} {E0 : Errs} {es : List E} {c D pre post : List UInt8} (w : World) (hE : Env w N0 E0) (hg : goodB es c = true) (hL : Lay D pre (filesL es) (dirL es 0) c post es.length) (hbad : pre = [] ∨ Stops (D.drop (filesL es).length)) :
    Calls Tryz.prog 28 #[.string (B D)] w (IsOk c (es.map toldE) w) := by
  obtain ⟨b, k, hA, hp⟩ := arc_good hg hL hbad
  have hc : (hsOf es 0).length = n2 D (D.length - b + k + 10) := by
    rw [hsOf_length, hp, hL.n2 10 (by omega), hL.ebytes.f10]
  have h := readOk_any _ b k N0 _ _ (hsOf es 0) E0 w hE hA hc
  rw [told_list es (good_parts hg).1, hp, hL.comment] at h
  exact h
set_option maxRecDepth 100000 in
set_option maxHeartbeats 2000000 in
theorem behind_any {N0 : Nat} {E0 : Errs} (es : List E) (c more : List UInt8) (v : Value) (w : World) (hE : Env w N0 E0) (hv : IsList w v es) (hlen : es.length ≤ 9223372036854775807) (hc : c.length ≤ 9223372036854775807) (hm : more.length ≤ 9223372036854775807)
    (hf : (filesL es).length ≤ 1152921504606846976) (hd : (dirL es 0).length ≤ 1152921504606846976) :
    Calls Tryz.prog 10 #[v, .string (B c), .string (B more)] w fun e w' => e = .returned (.bool true) ∧ Below w.heap.size w w' := by
  have HFT := Lib.hid (fits1_any es v w hv hlen)
  have HE := Lib.hid hE
  have HV := Lib.hid hv
  obtain ⟨fa, fcap, rfl, -⟩ := hv
  clear hE
  go_enter Tryz.func10, Tryz.ntmps10
  go_wp2_with fail
  refine HFT.out.mono ?_
  rintro e w1 ⟨rfl, hb1⟩
  have HB1 := Lib.hid hb1
  have HV1 := Lib.hid (HV.out.below hb1)
  clear hb1 HFT HV
  cases hft : fits1 es
  · go_wp2
    go_ret
    exact ⟨rfl, HB1.out⟩
  have HSM := Lib.hid (fits1_hdrs hft)
  obtain ⟨hl1, hl2⟩ := fits1_small hft
  clear hft hl2
  by_cases hcl : c.length ≤ 2147483647
  · have hcl' : ¬ (2147483647 : Int) < c.length := by omega
    by_cases hml : more.length ≤ 2147483647
    · have hml' : ¬ (2147483647 : Int) < more.length := by omega
      have hal : (archiveL es c).length = (filesL es).length + (dirL es 0).length + 22 + c.length := by simp only [archiveL, List.length_append, length_endL]; omega
      have HAR := Lib.hid (archive_any es c _ w1 HV1.out (by omega) HSM.out hf hd (by omega))
      go_wp2_with fail
      refine HAR.out.mono ?_
      rintro r w2 ⟨rfl, hb2⟩
      have HV2 := Lib.hid (HV1.out.below hb2)
      have HB2 := Lib.hid (below_up HB1.out hb2)
      clear hb2 HAR HV1
      have HG := Lib.hid (good_any es c _ w2 HV2.out (by omega) (by omega))
      go_wp2_with fail
      refine HG.out.mono ?_
      rintro r w4 ⟨rfl, hb4⟩
      have HV4 := Lib.hid (HV2.out.below hb4)
      have HB4 := Lib.hid (below_up HB2.out hb4)
      clear hb4 HG HV2
      cases hgood : goodB es c
      · go_wp2
        go_ret
        exact ⟨rfl, HB4.out⟩
      have HGOOD := Lib.hid hgood
      clear hgood
      by_cases hm1 : more.length ≤ 1000
      · have hm1' : ¬ (1000 : Int) < more.length := by omega
        have hgl := (good_parts HGOOD.out).2.1
        obtain ⟨D, hD⟩ : ∃ D, D = archiveL es c ++ more := ⟨_, rfl⟩
        have hDl : D.length ≤ 4611686018427387904 := by rw [hD, List.length_append]; omega
        have HEN := Lib.hid (ends_any D w4 hDl)
        have hsum : (archiveL es c).length + more.length ≤ 4611686018427387904 := by rw [hD, List.length_append] at hDl; exact hDl
        clear hal
        obtain ⟨n, hn⟩ : ∃ n, n = endsL D := ⟨_, rfl⟩
        rw [← hn] at HEN
        by_cases hn1 : n = 1
        · have HRD := Lib.hid (read_lay (N0 := N0) (E0 := E0) (pre := []) (post := more) (D := D) w4 (HE.out.below HB4.out) HGOOD.out (lay_of HGOOD.out (by omega) (by rw [hD]; simp [archiveL]) (by simp) hm1 (by omega)) (.inl rfl))
          rw [hD] at HEN HRD
          subst hn1
          clear hn hD hDl hf hd
          go_wp2_with (go_at_call 24; refine HEN.out.mono ?_; rintro r w5 ⟨rfl, rfl⟩)
          refine HRD.out.mono ?_
          rintro r w6 ⟨u, rfl, hO6, hb6⟩
          have HB6 := Lib.hid (below_up HB4.out hb6.out)
          have HLS := Lib.hid (listed_any es _ w6 (HV4.out.below hb6.out) (by omega) (fun x hx => HOk.of (by
            have := List.all_eq_true.1 (good_parts HGOOD.out).1 x hx
            simp only [entryOk, Bool.and_eq_true] at this
            exact this.1)))
          clear HRD hb6 HEN
          go_wp2_with fail
          refine HLS.out.mono ?_
          rintro r w7 ⟨u2, rfl, hO7, hb7⟩
          have HB7 := Lib.hid (below_up HB6.out hb7)
          have HSA := Lib.hid (same_any (es.map toldE) c u u2 w7 ((isHdrs_own hO6.out).below hb7) (isHdrs_own (by rw [List.length_map]; exact hO7)) (by rw [List.length_map]; omega))
          clear HLS hO6 hO7 hb7
          go_wp2_with (first
            | (go_at_call 27; refine HSA.out.mono ?_; rintro r w8 ⟨rfl, hb8⟩)
            | (go_at_call 23; refine (reads_any (E0 := E0) (N0 := N0) _ (HE.out.below (below_up HB7.out hb8))).mono ?_; rintro r w9 ⟨rfl, hb9⟩))
          all_goals (
            go_ret
            exact ⟨rfl, below_up (below_up HB7.out hb8) hb9⟩)
        · have hn1b : ((n : Int) != 1) = true := by rw [bne_iff_ne]; omega
          rw [hD] at HEN
          clear hn hD hn1 hDl hf hd
          go_wp2_with (go_at_call 24; refine HEN.out.mono ?_; rintro r w8 ⟨rfl, rfl⟩)
          all_goals (
            go_ret
            exact ⟨rfl, HB4.out⟩)
      · have hm1' : (1000 : Int) < more.length := by omega
        go_wp2
        go_ret
        exact ⟨rfl, HB4.out⟩
    · have hml' : (2147483647 : Int) < more.length := by omega
      go_wp2
      go_ret
      exact ⟨rfl, HB1.out⟩
  · have hcl' : (2147483647 : Int) < c.length := by omega
    go_wp2
    go_ret
    exact ⟨rfl, HB1.out⟩
end Go.Proofs.Zip
namespace Go.Proofs.YtiipmnaonidojaaGreatDoor
open Go Go.ChangeShapes Go.WideShapes Go.ChangeAt Go.RowKit Go.Proofs.Zip Go.Deep
theorem bulk_one {H : Type} (d : DataW H) : 1 ≤ Rows.uptoBulk d := by
  cases d with
  | lit l => cases l <;> simp [Rows.uptoBulk]
  | nil => simp [Rows.uptoBulk]
  | ptr d => simp [Rows.uptoBulk]
  | slice elems spare => simp [Rows.uptoBulk]
  | agg parts => simp [Rows.uptoBulk]
  | iface t d => simp [Rows.uptoBulk]
  | map entries => simp [Rows.uptoBulk]
  | held h => simp [Rows.uptoBulk]
section
variable {H : Type} {enc : TypeId × Value → H} {w : World} {base : Nat} {spare : Nat → Bool} {held : Bool}
theorem rd_strB {fuel : Nat} {c : Value} {x : DataW H × List MemPlace} (h : DataW.trod enc Tryz.prog w base spare held fuel 9 [c] = some x) : ∃ l, c = .string (B l) ∧ l.length + 1 = Rows.uptoBulk x.1 := by
  obtain ⟨s, h1, rfl, h3⟩ := DataW.trod_string Tryz.underlying9 h
  exact ⟨s.data.toList, by rw [← eq_B]; exact (List.cons.inj h1).1, by simp [Rows.uptoBulk]⟩
theorem bulk_agg2 (xs : List (DataW H × List MemPlace)) (h : xs.length = 2) : Rows.uptoBulk (DataW.agg (xs.map (·.1))) = Rows.uptoBulk (xs[0]'(by omega)).1 + Rows.uptoBulk (xs[1]'(by omega)).1 + 1 := by
  match xs, h with
  | [y0, y1], _ => simp [Rows.uptoBulk, Rows.uptoBulkAll]
theorem bulk_agg3 (ys : List (DataW H × List MemPlace)) (h : 3 ≤ ys.length) : Rows.uptoBulk (ys[0]'(by omega)).1 + Rows.uptoBulk (ys[1]'(by omega)).1 + Rows.uptoBulk (ys[2]'(by omega)).1 ≤ Rows.uptoBulk (DataW.agg (ys.map (·.1)), ys.flatMap (·.2)).1 := by
  match ys, h with
  | y0 :: y1 :: y2 :: r, _ => simp [Rows.uptoBulk, Rows.uptoBulkAll]; omega
/-- The texts of an entry, their lengths. -/
def bulk1 (e : E) : Nat := e.hdr.name.length + e.hdr.comment.length + e.hdr.extra.length + e.data.length
set_option maxRecDepth 100000 in
/-- The cells of an entry that can be read. -/
theorem rd_entB {fuel : Nat} {cs : List Value} {x : DataW H × List MemPlace} (h : DataW.trod enc Tryz.prog w base spare held fuel 28 cs = some x) : ∃ e : E, cs = e.cells ∧ bulk1 e ≤ Rows.uptoBulk x.1 := by
  obtain ⟨xs, n, _, rfl, hl, hxl, hf⟩ := DataW.trod_struct Tryz.underlying28 h
  rw [cellsEnt] at hl
  match cs, hl with
  | [c0, c1, c2, c3, c4, c5, c6, c7, c8, c9, c10, c11, c12, c13, c14], _ =>
    have hxl2 : xs.length = 2 := hxl
    have g0' : DataW.trod enc Tryz.prog w base spare held n 26 [c0, c1, c2, c3, c4, c5, c6, c7, c8, c9, c10, c11, c12, c13] = some xs[0] := fld hf 0 26 0 14 rfl cellsHdr (by omega)
    have g1' : DataW.trod enc Tryz.prog w base spare held n 9 [c14] = some xs[1] := fld hf 1 9 14 1 rfl cellsStr (by omega)
    obtain ⟨l14, rfl, b14⟩ := rd_strB g1'
    clear g1' hf
    obtain ⟨ys, m, _, hx0, _, hyl, hf⟩ := DataW.trod_struct Tryz.underlying26 g0'
    have hyl2 : ys.length = 14 := hyl
    have f0 : DataW.trod enc Tryz.prog w base spare held m 9 [c0] = some ys[0] := fld hf 0 9 0 1 rfl cellsStr (by omega)
    have f1 : DataW.trod enc Tryz.prog w base spare held m 9 [c1] = some ys[1] := fld hf 1 9 1 1 rfl cellsStr (by omega)
    have f2 : DataW.trod enc Tryz.prog w base spare held m 9 [c2] = some ys[2] := fld hf 2 9 2 1 rfl cellsStr (by omega)
    have f3 : DataW.trod enc Tryz.prog w base spare held m 4 [c3] = some ys[3] := fld hf 3 4 3 1 rfl cellsBool (by omega)
    have f4 : DataW.trod enc Tryz.prog w base spare held m 3 [c4] = some ys[4] := fld hf 4 3 4 1 rfl cellsInt (by omega)
    have f5 : DataW.trod enc Tryz.prog w base spare held m 3 [c5] = some ys[5] := fld hf 5 3 5 1 rfl cellsInt (by omega)
    have f6 : DataW.trod enc Tryz.prog w base spare held m 3 [c6] = some ys[6] := fld hf 6 3 6 1 rfl cellsInt (by omega)
    have f7 : DataW.trod enc Tryz.prog w base spare held m 3 [c7] = some ys[7] := fld hf 7 3 7 1 rfl cellsInt (by omega)
    have f8 : DataW.trod enc Tryz.prog w base spare held m 3 [c8] = some ys[8] := fld hf 8 3 8 1 rfl cellsInt (by omega)
    have f9 : DataW.trod enc Tryz.prog w base spare held m 3 [c9] = some ys[9] := fld hf 9 3 9 1 rfl cellsInt (by omega)
    have f10 : DataW.trod enc Tryz.prog w base spare held m 3 [c10] = some ys[10] := fld hf 10 3 10 1 rfl cellsInt (by omega)
    have f11 : DataW.trod enc Tryz.prog w base spare held m 3 [c11] = some ys[11] := fld hf 11 3 11 1 rfl cellsInt (by omega)
    have f12 : DataW.trod enc Tryz.prog w base spare held m 3 [c12] = some ys[12] := fld hf 12 3 12 1 rfl cellsInt (by omega)
    have f13 : DataW.trod enc Tryz.prog w base spare held m 3 [c13] = some ys[13] := fld hf 13 3 13 1 rfl cellsInt (by omega)
    obtain ⟨l0, rfl, b0⟩ := rd_strB (c := c0) f0
    obtain ⟨l1, rfl, b1⟩ := rd_strB (c := c1) f1
    obtain ⟨l2, rfl, b2⟩ := rd_strB (c := c2) f2
    obtain ⟨b3, rfl⟩ := rd_bool (c := c3) f3
    obtain ⟨n4, rfl⟩ := rd_int (c := c4) f4
    obtain ⟨n5, rfl⟩ := rd_int (c := c5) f5
    obtain ⟨n6, rfl⟩ := rd_int (c := c6) f6
    obtain ⟨n7, rfl⟩ := rd_int (c := c7) f7
    obtain ⟨n8, rfl⟩ := rd_int (c := c8) f8
    obtain ⟨n9, rfl⟩ := rd_int (c := c9) f9
    obtain ⟨n10, rfl⟩ := rd_int (c := c10) f10
    obtain ⟨n11, rfl⟩ := rd_int (c := c11) f11
    obtain ⟨n12, rfl⟩ := rd_int (c := c12) f12
    obtain ⟨n13, rfl⟩ := rd_int (c := c13) f13
    refine ⟨{ hdr := { name := l0, comment := l1, extra := l2, non := b3, creator := n4, reader := n5, flags := n6, method := n7, time := n8, date := n9, crc := n10, packed := n11, size := n12, ext := n13 }, data := l14 }, rfl, ?_⟩
    have e1 := bulk_agg2 xs hxl2
    have e2 := bulk_agg3 ys (by omega)
    rw [← hx0] at e2
    refine Nat.le_trans ?_ (Nat.le_of_eq e1.symm)
    simp only [bulk1]
    omega
/-- A value that reads as a list of entries. -/
theorem rd_listB {v : Value} {d : DataW H} {p : List MemPlace} (h : DataW.Trod enc Tryz.prog w 0 spare held 22 v d p) (hv : ∃ a len cap, v = .slice a len cap) : ∃ es : List E, IsList w v es ∧ es.length ≤ Rows.uptoBulk d ∧ bulkE es ≤ Rows.uptoBulk d := by
  obtain ⟨fuel, hf⟩ := h
  have hvc : v.cells.toList = [v] := by obtain ⟨a0, len0, cap0, rfl⟩ := hv; rfl
  rw [hvc] at hf
  rcases open_slice Tryz.underlying22 hf with ⟨hcs, _⟩ | ⟨a, len, cap, m, n, D, Pl, hcs, hb, hl, hm, hmm, hxd, hx⟩
  · obtain rfl : v = .slice none 0 0 := by simpa using hcs
    exact ⟨[], ⟨none, 0, rfl, fun h => absurd rfl h⟩, by simp, by simp [bulkE]⟩
  · obtain rfl : v = .slice (some a) len cap := by simpa using hcs
    have hlm : len ≤ m := by rw [hmm]; split <;> omega
    have key : ∀ i, i < len → ∃ e : E, w.cells? 0 (a.add (i * 15)) 15 = some e.cells ∧ bulk1 e ≤ Rows.uptoBulk (D i) := fun i hi => by
      obtain ⟨cs', h1, h2⟩ := hx i (by omega)
      rw [cellsEnt] at h1
      obtain ⟨e, rfl, he⟩ := rd_entB h2
      exact ⟨e, h1, he⟩
    obtain ⟨F, hF⟩ := @choose_lt E ⟨e0⟩ len (fun i e => w.cells? 0 (a.add (i * 15)) 15 = some e.cells ∧ bulk1 e ≤ Rows.uptoBulk (D i)) key
    have hd : d = .slice ((List.range len).map D) ((List.range (m - len)).map fun j => D (len + j)) := (Prod.mk.inj hxd).1
    have hsum : ∀ l : List Nat, (∀ i ∈ l, bulk1 (F i) ≤ Rows.uptoBulk (D i)) → l.length ≤ Rows.uptoBulkAll (l.map D) ∧ bulkE (l.map F) ≤ Rows.uptoBulkAll (l.map D) := by
      intro l
      induction l with
      | nil => intro _; exact ⟨Nat.le_refl _, Nat.le_refl _⟩
      | cons i l ih =>
        intro h
        obtain ⟨i1, i2⟩ := ih fun j hj => h j (List.mem_cons_of_mem _ hj)
        have := h i (List.mem_cons_self ..)
        have := bulk_one (D i)
        simp only [List.map_cons, Rows.uptoBulkAll, bulkE, List.length_cons]
        unfold bulk1 at *
        exact ⟨by omega, by omega⟩
    obtain ⟨s1, s2⟩ := hsum (List.range len) fun i hi => (hF i (by simpa using hi)).2
    have hle : Rows.uptoBulkAll ((List.range len).map D) ≤ Rows.uptoBulk d := by rw [hd]; simp only [Rows.uptoBulk]; omega
    replace hF := fun i hi => (hF i hi).1
    refine ⟨(List.range len).map F, ⟨some a, cap, by simp, fun hne => ?_⟩, by rw [List.length_map]; omega, by omega⟩
    have hpos : 0 < len := by
      rcases Nat.eq_zero_or_pos len with h0 | h0
      · subst h0; simp at hne
      · exact h0
    obtain ⟨ab, ao, asp⟩ := a
    have h0 := hF 0 hpos
    obtain ⟨_, _, hc0⟩ := World.cells?_some h0
    have hc00 := hc0 0 (by decide)
    have hasp : asp = none := by
      have : w.cell? ⟨ab, ao, asp⟩ = some (.string (B (F 0).hdr.name)) := by simpa [Addr.add] using hc00
      exact Go.Proofs.cell_spot this
    subst hasp
    have hlt : ab < w.heap.size := World.block_lt_of_cell? w ⟨ab, ao, none⟩ (u := .string (B (F 0).hdr.name)) (by simpa [Addr.add] using hc00)
    refine ⟨ab, ao, rfl, hlt, fun k e he => ?_⟩
    rw [List.getElem?_map] at he
    cases hk : (List.range len)[k]? with
    | none => rw [hk] at he; cases he
    | some k' =>
      rw [hk] at he
      obtain ⟨hk1, hk2⟩ := List.getElem?_eq_some_iff.1 hk
      simp at hk1 hk2
      subst hk2
      cases he
      obtain ⟨_, _, hck⟩ := World.cells?_some (hF k hk1)
      intro j u hj
      have hj15 : j < 15 := (List.getElem?_eq_some_iff.1 hj).1
      have := hck j hj15
      rw [hj, add_at, add_at] at this
      exact this
end
end Go.Proofs.YtiipmnaonidojaaGreatDoor
