/- What is proved: for every list of entries, every comment, every index, place and bit, FnContentFlip returns true and leaves its arguments as they read: one bit of a stored content that is turned is told by the checksum. Conditions: none beyond the row's own: the arguments can be read as data, and the package variables that the row lists hold what the program's text lays (the card ties that). -/
import Derived.Test.YtiipmnaonidojaaGreatDoorZS
import Derived.Test.YtiipmnaonidojaaGreatDoorZR
namespace Go.Proofs.Zip
open Go Go.RowKit
theorem shl_val (b : Int) (h0 : 0 ≤ b) (h7 : b ≤ 7) : ∃ v : Nat, v < 256 ∧ v ≠ 0 ∧ IntKind.u8.wrap (2 ^ b.toNat) = (v : Int) := by
  obtain ⟨n, rfl⟩ := Int.eq_ofNat_of_zero_le h0
  match n, h7 with
  | 0, _ => exact ⟨1, by decide, by decide, by decide⟩
  | 1, _ => exact ⟨2, by decide, by decide, by decide⟩
  | 2, _ => exact ⟨4, by decide, by decide, by decide⟩
  | 3, _ => exact ⟨8, by decide, by decide, by decide⟩
  | 4, _ => exact ⟨16, by decide, by decide, by decide⟩
  | 5, _ => exact ⟨32, by decide, by decide, by decide⟩
  | 6, _ => exact ⟨64, by decide, by decide, by decide⟩
  | 7, _ => exact ⟨128, by decide, by decide, by decide⟩
  | n + 8, h => omega
set_option maxRecDepth 100000 in
set_option maxHeartbeats 2000000 in
theorem contentFlip_any {N0 : Nat} {E0 : Errs} (es : List E) (c : List UInt8) (k : Int) (m b : Int) (v : Value) (w : World) (hE : Env w N0 E0) (hv : IsList w v es) (hlen : es.length ≤ 9223372036854775807) (hc : c.length ≤ 9223372036854775807) :
    Calls Tryz.prog 4 #[v, .string (B c), .int .i64 k, .int .i64 m, .int .i64 b] w fun e w' => e = .returned (.bool true) ∧ Below w.heap.size w w' := by
  have HFT := Lib.hid (fits1_any es v w hv hlen)
  have HE := Lib.hid hE
  have HV := Lib.hid hv
  clear hE hv
  go_enter Tryz.func4, Tryz.ntmps4
  go_wp2_with fail
  refine HFT.out.mono ?_
  rintro e w1 ⟨rfl, hb1⟩
  have HB1 := Lib.hid hb1
  clear hb1 HFT
  cases hft : fits1 es
  · go_wp2
    go_ret
    exact ⟨rfl, HB1.out⟩
  obtain ⟨hl1, hl2⟩ := fits1_small hft
  have HL2 := Lib.hid hl2
  clear hft hl2
  by_cases hcl : c.length ≤ 2147483647
  · have hcl' : ¬ (2147483647 : Int) < c.length := by omega
    have HAS := Lib.hid (allStored_any es v w1 (HV.out.below HB1.out) hl1 (fun e he => by have := HL2.out e he; omega))
    go_wp2_with fail
    refine HAS.out.mono ?_
    rintro e w2 ⟨u, rfl, hown, hb2⟩
    obtain ⟨es', hes'⟩ : ∃ l, l = es.map storedE := ⟨_, rfl⟩
    have hlen' : es'.length = es.length := by rw [hes']; simp
    rw [← hes', ← hlen'] at hown
    have HES := Lib.hid hes'
    have HB2 := Lib.hid (below_up HB1.out hb2)
    have HLE := Lib.hid hlen'
    have HZ1 := Lib.hid HB1.out.size
    have HOWN := Lib.hid hown
    clear hb2 HAS hes' hlen' hown
    by_cases hk0 : k < 0
    · go_wp2
      go_ret
      exact ⟨rfl, HB2.out⟩
    obtain ⟨kk, rfl⟩ := Int.eq_ofNat_of_zero_le (by omega : 0 ≤ k)
    clear hk0
    by_cases hk1 : kk < es'.length
    · obtain ⟨g, cap, rfl, hg, hgl, hfz, hr, hset⟩ := ownRows_at HOWN.out hk1
      obtain ⟨e, he⟩ : ∃ e, e = es'[kk] := ⟨_, rfl⟩
      rw [← he] at hr hset
      have HEQ := Lib.hid he
      clear he
      obtain ⟨e1, hm1, he1⟩ : ∃ e1, e1 ∈ es ∧ e = storedE e1 := by
        have := List.getElem_mem hk1
        rw [← HEQ.out, HES.out, List.mem_map] at this
        obtain ⟨x, hx, hx2⟩ := this
        exact ⟨x, hx, hx2.symm⟩
      have HDL := Lib.hid (HL2.out e1 hm1)
      have HHE : Hid (e.hdr.method = 0 ∧ e.hdr.packed = (e.data.length : Int) ∧ e.hdr.size = (e.data.length : Int) ∧ e.hdr.crc = crc e.data ∧ e.data = e1.data) := Lib.hid (by rw [he1]; exact ⟨rfl, rfl, rfl, rfl, rfl⟩)
      have HR := Lib.hid hr
      have HSET := Lib.hid hset
      have HFZ := Lib.hid hfz
      clear hr hset hfz hm1 he1
      have hkd1 : decide ((kk : Int) < 0) = false := by simp
      have hkd2 : decide (es'.length ≤ kk) = false := by simp; omega
      have cd : w2.cell? ⟨g, kk * 15 + 14, none⟩ = some (.string (B e.data)) := HR.out 14 _ rfl
      have cr : w2.cell? ⟨g, kk * 15 + 10, none⟩ = some (.int .i64 e.hdr.crc) := HR.out 10 _ rfl
      by_cases hm0 : m < 0
      · go_wp2
        go_ret
        exact ⟨rfl, HB2.out⟩
      obtain ⟨at_, rfl⟩ := Int.eq_ofNat_of_zero_le (by omega : 0 ≤ m)
      clear hm0
      by_cases hm1 : e.data.length ≤ at_
      · go_wp2
        go_ret
        exact ⟨rfl, HB2.out⟩
      have hat : at_ < e.data.length := by omega
      by_cases hm2 : b < 0
      · go_wp2
        go_ret
        exact ⟨rfl, HB2.out⟩
      by_cases hm3 : 7 < b
      · go_wp2
        go_ret
        exact ⟨rfl, HB2.out⟩
      by_cases hm4 : e.hdr.crc = 0
      · have hm4b : (e.hdr.crc == 0) = true := by rw [beq_iff_eq]; exact hm4
        go_wp2
        go_ret
        exact ⟨rfl, HB2.out⟩
      have hm4b : (e.hdr.crc == 0) = false := by rw [beq_eq_false_iff_ne]; exact hm4
      have HNE := Lib.hid hm4
      obtain ⟨bv, hbv, hb0, hshl⟩ := shl_val b (by omega) (by omega)
      clear hm4
      obtain ⟨e2, he2⟩ : ∃ x : E, x = { hdr := e.hdr, data := turnedL e.data at_ bv } := ⟨_, rfl⟩
      have cs : w2.cell? ⟨g, kk * 15 + 14, none⟩ = some (.string (B e.data)) := HR.out 14 _ rfl
      have fz : w2.frozen? ⟨g, kk * 15 + 14, none⟩ = false := HFZ.out _
      obtain ⟨es2, hes2⟩ : ∃ l, l = es'.set kk e2 := ⟨_, rfl⟩
      have HOWNF : Hid (∀ wb, Below w2.heap.size w2 wb → (wb.setCell ⟨g, kk * 15 + 14, none⟩ (.string (B (turnedL e.data at_ bv)))).ownsRow w1.heap.size 28 15 (.slice (some ⟨g, 0, none⟩) es'.length cap) es2.length (rows es2)) := Lib.hid fun wb hbb => by
        obtain ⟨g', cap', hu, _, _, _, _, hset'⟩ := ownRows_at (ownsRow_below HOWN.out hbb) hk1
        cases hu
        have h9 := hset' 14 (.string (B (turnedL e.data at_ bv))) e2 (by decide) (by rw [he2, ← HEQ.out]; rfl)
        rwa [← hes2] at h9
      have hl2 : es2.length = es'.length := by rw [hes2, List.length_set]
      have hk2 : kk < es2.length := by omega
      have hget : es2[kk] = e2 := by simp [hes2]
      have HK2 := Lib.hid hk2
      have HGET := Lib.hid hget
      have HL22 := Lib.hid hl2
      have HE2 := Lib.hid he2
      clear hes2 hget hl2 he2
      have HTU := Lib.hid (fun w' => turned_any e.data at_ bv w' (by have := HDL.out; rw [HHE.out.2.2.2.2]; omega) hat hbv)
      rw [← hshl] at HTU
      have HBV := Lib.hid (And.intro hbv hb0)
      have HLN2 : Hid (e2.data.length = e.data.length) := Lib.hid (by rw [HE2.out]; exact length_turnedL hat)
      clear hshl hbv hb0
      go_upto_region 6 with fail
      go_cut [10] (fun s10 wx => s10 = .bool false ∧ ∃ w2b, Hid (wx = w2b.setCell ⟨g, kk * 15 + 14, none⟩ (.string (B (turnedL e.data at_ bv))) ∧ Below w2.heap.size w2 w2b))
      case first =>
        go_region_with (go_at_call 22; refine (HTU.out _).mono ?_; rintro r w2b ⟨rfl, hb2b⟩; have cs2 := keep (b := g) (o := kk * 15 + 14) hb2b hgl cs; have fz2 : w2b.frozen? ⟨g, kk * 15 + 14, none⟩ = false := by (rw [hb2b.frozen (p := ⟨g, kk * 15 + 14, none⟩) hgl]; exact fz))
        all_goals (
          go_wp2_with fail
          go_meet
          exact ⟨rfl, w2b, Lib.hid ⟨rfl, below_up (Below.refl _ _).drew hb2b⟩⟩)
      case rest =>
        obtain ⟨rfl, w2b, hcut⟩ := hcut
        obtain ⟨hwc, hbc⟩ := hcut.out
        have HBC := Lib.hid (below_up HB2.out hbc)
        have HWC := Lib.hid hwc
        have hown3 := HOWNF.out w2b hbc
        rw [← hwc] at hown3
        have HLI3 := Lib.hid (isList_own hown3)
        have HB3 : Hid (Below w.heap.size w wc) := Lib.hid (by rw [hwc]; exact HBC.out.setCell (by show w.heap.size ≤ g; have := HZ1.out; omega) _)
        clear hcut hwc hbc
        clear hown3 HSET HFZ HR HOWN hgl cs fz HTU HOWNF
        have hgl3 : g < wc.heap.size := by obtain ⟨_, _, _, hv, hlt, _⟩ := HLI3.out.at HK2.out; simp only [Value.slice.injEq, Option.some.injEq, Addr.mk.injEq, and_true] at hv; rw [hv.1.1]; exact hlt
        have hr3 : wc.rangeAt g (kk * 15) e2.cells := by
          obtain ⟨b, off, cap', hv, hlt, hr⟩ := HLI3.out.at HK2.out
          simp only [Value.slice.injEq, Option.some.injEq, Addr.mk.injEq, and_true] at hv
          rw [HGET.out, ← hv.1.1, ← hv.1.2] at hr
          simpa using hr
        have HR3 := Lib.hid hr3
        have HGL3 := Lib.hid hgl3
        clear hr3 hgl3
        have HG := Lib.hid (good_any es2 c _ wc HLI3.out (by have := HL22.out; have := HLE.out; omega) (by omega))
        go_wp2_with fail
        refine HG.out.mono ?_
        rintro r w4 ⟨rfl, hb4⟩
        have HLI4 := Lib.hid (HLI3.out.below hb4)
        have HB4 := Lib.hid (below_up HB3.out hb4)
        have HR4 := Lib.hid (rangeAt_below hb4 HR3.out HGL3.out)
        have HGL4 := Lib.hid (keepSize hb4 HGL3.out)
        clear hb4 HG
        cases hgood : goodB es2 c
        · go_wp2
          go_ret
          exact ⟨rfl, HB4.out⟩
        have HGOOD := Lib.hid hgood
        clear hgood
        have HD := Lib.hid (directories_any es2 _ w4 HLI4.out (by have := HL22.out; have := HLE.out; omega) (fun x hx => by
          have := (entryOk_small (List.all_eq_true.1 (good_parts HGOOD.out).1 x hx)).1.name; omega))
        go_wp2_with fail
        refine HD.out.mono ?_
        rintro r w4b ⟨rfl, hb5⟩
        have HLI4' := Lib.hid (HLI4.out.below hb5)
        have HB4' := Lib.hid (below_up HB4.out hb5)
        have HR4' := Lib.hid (rangeAt_below hb5 HR4.out HGL4.out)
        have HGL4' := Lib.hid (keepSize hb5 HGL4.out)
        clear hb5 HD HLI4 HB4 HR4 HGL4
        have HLI4 := HLI4'
        have HB4 := HB4'
        have HR4 := HR4'
        have HGL4 := HGL4'
        clear HLI4' HB4' HR4' HGL4'
        cases hdir : directoriesB es2
        · go_wp2
          go_ret
          exact ⟨rfl, HB4.out⟩
        have HDIR := Lib.hid hdir
        clear hdir
        have hrh : w4b.rangeAt g (kk * 15) e2.hdr.cells := rangeAt_part (n := 0) HR4.out rfl
        have HSM := Lib.hid (simple_any e2.hdr w4b)
        go_wp2_with (first
          | (refine wpList_load_want 26 _ rfl g (kk * 15) rfl e2.hdr.cells _ hrh Tryz.underlying26 rfl sizeHdr rfl ?_)
          | (go_at_call 19; refine HSM.out.mono ?_; rintro r w5 ⟨rfl, hb5⟩))
        · go_ret
          exact ⟨rfl, below_up HB4.out hb5⟩
        have hsm : simpleB e2.hdr = true := by
          have h : (!simpleB e2.hdr) = false := ‹_›
          simpa using h
        have HSMT := Lib.hid hsm
        have HLI5 := Lib.hid (HLI4.out.below hb5)
        have HB5 := Lib.hid (below_up HB4.out hb5)
        have HR5 := Lib.hid (rangeAt_below hb5 HR4.out HGL4.out)
        have HGL5 := Lib.hid (keepSize hb5 HGL4.out)
        clear hb5 HSM HLI4 HB4 HR4 HGL4 hrh hsm
        have HAR := Lib.hid (archive_good HGOOD.out _ w5 HLI5.out)
        go_wp2_with fail
        refine HAR.out.mono ?_
        rintro r w6 ⟨rfl, hb6⟩
        have HB6 := Lib.hid (below_up HB5.out hb6)
        have HR6 := Lib.hid (rangeAt_below hb6 HR5.out HGL5.out)
        have HGL6 := Lib.hid (keepSize hb6 HGL5.out)
        have HCT := Lib.hid (content_simple (HE.out.below HB6.out) HGOOD.out HK2.out HGET.out (by rw [HLN2.out, HE2.out]; exact HHE.out.2.1) (by rw [HLN2.out, HE2.out]; exact Int.le_of_eq HHE.out.2.2.1.symm) (fun _ => HSMT.out))
        clear hb6 HAR HR5 HGL5
        go_wp2_with fail
        refine HCT.out.mono ?_
        rintro r w7 ⟨l, n, rfl, hn, hb7⟩
        have HB7 := Lib.hid (below_up HB6.out hb7.out)
        have HR7 := Lib.hid (rangeAt_below hb7.out HR6.out HGL6.out)
        clear hb7 HCT HR6 HGL6
        have hln : n = 3 := by
          obtain ⟨q1, q2, q3⟩ := hn.out
          obtain ⟨h1, h2, h3, h4, h5⟩ := HHE.out
          have hm : e2.hdr.method = 0 := by rw [HE2.out]; exact h1
          have hl : e2.data.length = e.data.length := by rw [HE2.out]; exact length_turnedL hat
          have hz : e2.hdr.size = (e2.data.length : Int) := by rw [hl, HE2.out]; exact h3
          have hcr : e2.hdr.crc ≠ 0 := by rw [HE2.out]; exact HNE.out
          have hcc : (crc e2.data : Int) ≠ e2.hdr.crc := by
            rw [HE2.out]
            show (crc (turnedL e.data at_ bv) : Int) ≠ e.hdr.crc
            rw [h4]
            have := crc_turnedL (l := e.data) hat HBV.out.1 HBV.out.2
            omega
          have hs : slash e2.hdr.name = false := by
            cases hs : slash e2.hdr.name
            · rfl
            · have h6 : e2.data = [] := by
                have := dirOk_of HDIR.out HK2.out (by rw [HGET.out]; exact hs)
                rwa [HGET.out] at this
              rw [h6] at hl
              simp at hl
              omega
          obtain ⟨r1, r2, r3, r4⟩ := q3 hs hm
          exact r3 hz hcr hcc
        subst hln
        clear hn
        go_wp2
        go_ret
        exact ⟨rfl, HB7.out⟩
    · obtain ⟨fx, fcap, hfm⟩ := own_form HOWN.out
      subst hfm
      go_wp2
      go_ret
      exact ⟨rfl, HB2.out⟩
  · have hcl' : (2147483647 : Int) < c.length := by omega
    go_wp2
    go_ret
    exact ⟨rfl, HB1.out⟩
end Go.Proofs.Zip
namespace Go.Proofs.YtiipmnaonidojaaGreatDoor
open Go Go.ChangeShapes Go.WideShapes Go.ChangeAt Go.RowKit Go.Proofs.Zip Go.Deep
namespace fnContentFlip
abbrev fid : Nat := 4
theorem laid_same : Rows.fnContentFlipRow.laid = laidL := rfl
set_option maxRecDepth 100000 in
/-- What the walk gives, for every input that can be read. -/
theorem contract (H : Type) (enc : TypeId × Value → H) (W : World) (base : Nat) (args : Array Value) (ds gs : List (DataW H)) (before : List MemPlace)
    (hval : ∀ (j : Nat) t v, Tryz.f4.params[j]? = some t → args[j]? = some v → Value.okWide Tryz.prog W .any base t v)
    (hW : DataW.Whole enc Tryz.prog Tryz.f4.params.toList Rows.fnContentFlipSpec.vars false W args.toList ds gs before) (hL : laidMetH Tryz.prog Rows.fnContentFlipRow.laid W) :
    Calls Tryz.prog 4 args W fun e W' => ∃ v, e = .returned v ∧ Rows.fnContentFlipSpec.post enc Tryz.prog Tryz.f4 false true false false W args v W' := by
  have hW' := hW
  obtain ⟨p, q, hA0, hV, rfl, _, _⟩ := hW
  have hA : DataW.TrodAll enc Tryz.prog W 0 (fun _ => true) true Tryz.f4.params.toList args.toList ds p := hA0
  rw [Tryz.params4] at hA hval
  obtain ⟨v0, vs0, d0, ds0, p0, q0, hargs, rfl, rfl, h0, r0⟩ := trodAll_cons hA
  obtain ⟨v1, vs1, d1, ds1, p1, q1, rfl, rfl, rfl, h1, r1⟩ := trodAll_cons r0
  obtain ⟨v2, vs2, d2, ds2, p2, q2, rfl, rfl, rfl, h2, r2⟩ := trodAll_cons r1
  obtain ⟨v3, vs3, d3, ds3, p3, q3, rfl, rfl, rfl, h3, r3⟩ := trodAll_cons r2
  obtain ⟨v4, vs4, d4, ds4, p4, q4, rfl, rfl, rfl, h4, r4⟩ := trodAll_cons r3
  obtain ⟨rfl, rfl, rfl⟩ := trodAll_nil r4
  obtain rfl : args = #[v0, v1, v2, v3, v4] := by cases args; simp_all
  obtain ⟨E0, hE⟩ : ∃ E0, Env W W.heap.size E0 := by
    rw [laid_same] at hL
    rw [MakeChecks.laidMetH_plain _ _ _ (by kernel_rfl)] at hL
    exact env_of hL
  have hk0 := h0
  have hk1 := h1
  have hk2 := h2
  have hk3 := h3
  have hk4 := h4
  obtain ⟨es0, hes0, hel0⟩ := rd_list h0 (okWide_slice Tryz.underlying22 (hval 0 22 v0 rfl rfl))
  obtain ⟨c1, rfl, hc1⟩ : ∃ l : List UInt8, v1 = .string (B l) ∧ l.length ≤ 9223372036854775807 := rd_text h1 (hval 1 9 v1 rfl rfl)
  obtain ⟨n2, rfl, -, -, wf2⟩ := open_int Tryz.underlying3 (hval 2 3 v2 rfl rfl) h2
  obtain ⟨n3, rfl, -, -, wf3⟩ := open_int Tryz.underlying3 (hval 3 3 v3 rfl rfl) h3
  obtain ⟨n4, rfl, -, -, wf4⟩ := open_int Tryz.underlying3 (hval 4 3 v4 rfl rfl) h4
  have hlt : ∀ x ∈ ((p0 ++ (p1 ++ (p2 ++ (p3 ++ (p4 ++ [])))))) ++ q, x.block < W.heap.size := fun x hx => by simpa using hW'.lt x (by simpa using hx)
  refine (contentFlip_any es0 c1 n2 n3 n4 v0 W hE hes0 hel0 hc1).mono fun e W' ⟨he, hb⟩ => ?_
  subst he
  have hV' := Below.trodVars laidOut hb varsOk hV
  obtain ⟨g1, g2, g3, g4, rfl⟩ := four_of_vars hV
  refine ⟨_, rfl, _, _, _, [], p0 ++ (p1 ++ (p2 ++ (p3 ++ (p4 ++ ([]))))), q, hW', trodAll_cons_mk (shut_bool Tryz.underlying4 true) trodAll_mk0, ?_, hV', hb.frame _, fun h => by cases h⟩
  exact trodAll_cons_mk (Below.trod laidOut (by kernel_rfl) (of_decide_eq_true (by kernel_rfl)) hk0 hb (fun x hx => hlt x (by simp [hx]))) (trodAll_cons_mk (Below.trod laidOut (by kernel_rfl) (of_decide_eq_true (by kernel_rfl)) hk1 hb (fun x hx => hlt x (by simp [hx]))) (trodAll_cons_mk (Below.trod laidOut (by kernel_rfl) (of_decide_eq_true (by kernel_rfl)) hk2 hb (fun x hx => hlt x (by simp [hx]))) (trodAll_cons_mk (Below.trod laidOut (by kernel_rfl) (of_decide_eq_true (by kernel_rfl)) hk3 hb (fun x hx => hlt x (by simp [hx]))) (trodAll_cons_mk (Below.trod laidOut (by kernel_rfl) (of_decide_eq_true (by kernel_rfl)) hk4 hb (fun x hx => hlt x (by simp [hx]))) (trodAll_mk0)))))
set_option maxRecDepth 100000 in
theorem lifted (os : Os) (started : os.Started) (H : Type) (enc : TypeId × Value → H) :
    ReturnsInHanded {} Tryz.checked os 4 .any (fun w args => (Rows.fnContentFlipSpec.pre enc Tryz.prog Tryz.f4 Rows.fnContentFlipRow.domain false w args ∧ laidMetH Tryz.prog Rows.fnContentFlipRow.laid w) ∧ sizedMet enc Tryz.prog Tryz.f4 (OpenSpec.ofChange Rows.fnContentFlipSpec) false w args)
      (Rows.fnContentFlipSpec.post enc Tryz.prog Tryz.f4 false true false false) := by
  refine returnsInHanded_of_change_and (C := Tryz.checked) (X := fun w _ => laidMetH Tryz.prog Rows.fnContentFlipRow.laid w) (fun _ _ _ hh h => h.of_heap hh) own started (by kernel_rfl) Tryz.func4
    (ChangeSpec.witness_shaped (enc := enc) (C := Tryz.checked) (os := os) (X := fun w _ => laidMetH Tryz.prog Rows.fnContentFlipRow.laid w) false (World.laidAll Tryz.prog os Rows.fnContentFlipRow.laid) #[.slice none 0 0, .string ByteArray.empty, .int .i64 0, .int .i64 0, .int .i64 0] 8 (World.laidAll_os _ _ _)
      (World.shaped_of_ZipB (by kernel_rfl) (by kernel_rfl)) (by kernel_rfl) (by kernel_rfl) (by kernel_rfl)
      (by rw [MakeChecks.laidMetH_plain _ _ _ (by kernel_rfl)]; exact laidMet_laidAll _ (by kernel_rfl) (by kernel_rfl))) ?_
  intro W base args ds gs before hval hW _ _ hL _
  exact contract H enc W base args ds gs before hval hW hL
set_option maxRecDepth 100000 in
set_option maxHeartbeats 8000000 in
theorem closed : joinedFacts Tryz.pinned.checked.prog 4 Tryz.f4 Rows.fnContentFlipSpec Rows.fnContentFlipRow = true := by
  unfold joinedFacts
  rw [show Tryz.pinned.checked.prog = Tryz.prog from rfl, head_enter, head_final, head_make]
  repeat' (with_reducible refine Bool.and_eq_true_iff.2 ⟨?_, ?_⟩)
  all_goals as_aux_lemma => kernel_rfl
theorem wrapped : Tryz.f4.isWrapper Tryz.pinned.checked.prog Rows.fnContentFlipRow.wrapper Rows.fnContentFlipRow.mainSum := by unfold Func.isWrapper; first | (rw [if_pos (by decide +kernel)]; kernel_rfl) | (rw [if_neg (by decide +kernel)]; exact ⟨rfl, rfl⟩)
set_option maxRecDepth 100000 in
theorem said : Rows.FnContentFlipSaid :=
  OpenClaim.holds_of_wide 4 Tryz.f4 rfl rfl rfl rfl rfl rfl rfl ⟨rfl, rfl, rfl, rfl, rfl⟩ rfl rfl rfl rfl rfl (by kernel_rfl) Tryz.func4 closed
    (of_decide_eq_true (by kernel_rfl)) wrapped
    (fun os started H enc _ => lifted os started H enc)
/-- No parameter wants a stand-in. -/
theorem plain (f : FuncId) (fn : Func) (hf : Tryz.pinned.checked.prog.funcNamed "loop.example/pub-ziparchives/laws.FnContentFlip" = some f) (hfn : Tryz.pinned.checked.prog.funcs[f]? = some fn) :
    true = Tryz.pinned.checked.prog.looks [] ∧ ∀ (j : Nat) t, fn.params[j]? = some t → Tryz.pinned.checked.prog.wantsStandIn t = false := by
  obtain rfl : f = 4 := Option.some.inj ((show Tryz.prog.funcNamed "loop.example/pub-ziparchives/laws.FnContentFlip" = some 4 by kernel_rfl).symm.trans hf) |>.symm
  obtain rfl : fn = Tryz.f4 := (Option.some.inj (Tryz.func4.symm.trans hfn)).symm
  refine ⟨by kernel_rfl, fun j t ht => ?_⟩
  rw [Tryz.params4] at ht
  have hm : t ∈ [22, 9, 3, 3, 3] := by simpa using Array.mem_of_getElem? ht
  have hall : ([22, 9, 3, 3, 3].all fun u => !Tryz.prog.wantsStandIn u) = true := by kernel_rfl
  exact (show Tryz.prog.wantsStandIn t = false by simpa using List.all_eq_true.1 hall t hm)
set_option maxRecDepth 100000 in
/-- THE CARD. -/
theorem card : Rows.FnContentFlipCardSaid :=
  Claim7.holds_tied_plain_at .later [] _ _ _ _ said (fun _ h => by cases h) (by kernel_rfl) (fun _ h => by cases h) fnContentFlip_row_tie rfl ⟨rfl, rfl⟩ head_main rfl plain (by kernel_rfl)
end fnContentFlip
end Go.Proofs.YtiipmnaonidojaaGreatDoor
