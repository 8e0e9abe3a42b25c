/- What is proved: for every list of entries and every comment, FnWriteLocal returns true and leaves its arguments as they read: the local headers of what is written tell the names, and contents stand behind them in order. Conditions: none beyond the row's own: the arguments can be read as data, and the package variables that the row lists hold what the program's text lays (the card ties that). -/
import Derived.Test.YtidmhfhfcoljeaaGreatDoorZV
import Derived.Test.YtidmhfhfcoljeaaGreatDoorZSe
import Derived.Test.YtidmhfhfcoljeaaGreatDoorZSd
import Derived.Test.YtidmhfhfcoljeaaGreatDoorZR
namespace Go.Proofs.Zip
open Go Go.RowKit
theorem dir_data3 {es : List E} (h : directoriesB es = true) : ∀ e ∈ es, slash e.hdr.name = true → e.data = [] := by
  intro e he hs
  have := List.all_eq_true.1 h e he
  simp only [dirOk, Bool.not_eq_true', Bool.and_eq_false_iff] at this
  rw [slash_eq] at hs
  rcases this with h | h
  · rw [hs] at h; cases h
  · simp at h; exact h
theorem arcP_len3 {ps : List Pc} {c : List UInt8} (h : ∀ p ∈ ps, PcOk p) (hn : ps.length ≤ 1000) (hc : c.length ≤ 65535) : (arcP ps c).length ≤ 4294967294 := by
  have h1 := pcsL_ok h
  have h2 := catP_ok h 0
  unfold arcP
  rw [List.length_append, List.length_append, length_endL]
  omega
/-- An entry whose parts are small. -/
structure WrS (e : E) : Prop where
  name : e.hdr.name.length ≤ 60000
  comment : e.hdr.comment.length ≤ 60000
  data : e.data.length ≤ 1048576
  ext : 0 ≤ e.hdr.ext ∧ e.hdr.ext ≤ 4294967295
set_option maxRecDepth 100000 in
set_option maxHeartbeats 20000000 in
theorem writeLocal_any {N0 : Nat} {E0 : Errs} (es : List E) (c : List UInt8) (v : Value) (w : World) (hE : Env w N0 E0) (hv : IsList w v es) (hlen : es.length ≤ 9223372036854775807) (hc : c.length ≤ 9223372036854775807) :
    Calls Tryz.prog 7 #[v, .string (B c)] w fun e w' => e = .returned (.bool true) ∧ Below w.heap.size w w' := by
  have HFT := Lib.hid (fits1_any es v w hv hlen)
  have HE := Lib.hid hE
  obtain ⟨va, vcap, hvf, hl⟩ := hv
  have HV : Hid (IsList w v es) := Lib.hid ⟨va, vcap, hvf, hl⟩
  subst hvf
  clear hE
  go_enter Tryz.func7, Tryz.ntmps7
  go_wp2_with fail
  refine HFT.out.mono ?_
  rintro e w1 ⟨rfl, hb1⟩
  have HB1 := Lib.hid hb1
  clear hb1 HFT
  cases hft : fits1 es
  · go_wp2
    go_ret
    exact ⟨rfl, HB1.out⟩
  obtain ⟨hl1, hl2⟩ := fits1_small hft
  clear hft hl2
  by_cases hcl : c.length ≤ 2147483647
  rotate_left
  · have hcl' : (2147483647 : Int) < c.length := by omega
    go_wp2
    go_ret
    exact ⟨rfl, HB1.out⟩
  have hcl' : ¬ (2147483647 : Int) < c.length := by omega
  go_wp2_with fail
  go_loopw [26] (fun tj wr => ∃ j : Nat, tj = .int .i64 j ∧ j ≤ es.length ∧ Hid (∀ e ∈ es.take j, WrS e) ∧ Hid (Below w.heap.size w wr)) (fun tj _ => es.length - (intOf tj).toNat)
  case atStart => exact ⟨0, rfl, Nat.zero_le _, Lib.hid (fun e he => by simp at he), HB1⟩
  case round =>
    obtain ⟨j, rfl, hj, hSm, hW⟩ := hrel
    by_cases hlt : j < es.length
    · obtain ⟨b, off, rfl, hblt, hr⟩ := hl (fun e => by simp [e] at hlt)
      have hr := rangeAt_below hW.out (hr j es[j] (List.getElem?_eq_getElem hlt)) hblt
      have hsmt : Hid (WrS es[j] → ∀ e ∈ es.take (j + 1), WrS e) := Lib.hid (fun h e he => by
        rw [List.take_succ_eq_append_getElem hlt] at he
        rcases List.mem_append.1 he with he | he
        · exact hSm.out e he
        · cases List.mem_singleton.1 he; exact h)
      generalize es[j] = e at hr hsmt
      clear hl hblt
      have hBW : Below w.heap.size w (wr.alloc (.cells e.cells.toArray 38)) := hW.out.alloc hW.out.size _
      have HBW := Lib.hid hBW
      have HBK := Lib.hid (Blk.new wr e.cells.toArray 38)
      clear hBW
      go_upto_region 6 with (first
          | (refine wpList_load_mid rfl 38 _ rfl b (off + j * 15) rfl e.cells _ hr Tryz.underlying38 rfl sizeEnt ?_)
          | (refine wpList_alloc_store 38 _ _ e.cells rfl rfl rfl rfl rfl rfl sizesEnt rfl ?_))
      have k0 : (wr.alloc (.cells e.cells.toArray 38)).cell? ⟨wr.heap.size, 0, none⟩ = some (.string (B e.hdr.name)) := HBK.out.cell 0
      have k1 : (wr.alloc (.cells e.cells.toArray 38)).cell? ⟨wr.heap.size, 1, none⟩ = some (.string (B e.hdr.comment)) := HBK.out.cell 1
      have k13 : (wr.alloc (.cells e.cells.toArray 38)).cell? ⟨wr.heap.size, 13, none⟩ = some (.int .i64 e.hdr.ext) := HBK.out.cell 13
      have k14 : (wr.alloc (.cells e.cells.toArray 38)).cell? ⟨wr.heap.size, 14, none⟩ = some (.string (B e.data)) := HBK.out.cell 14
      clear HBK hr
      generalize wr.alloc (.cells e.cells.toArray 38) = w2 at HBW k0 k1 k13 k14 ⊢
      by_cases z1 : e.hdr.name.length ≤ 60000
      rotate_left
      · have z1' : (60000 : Int) < e.hdr.name.length := by omega
        go_wp2
        go_ret
        exact ⟨rfl, HBW.out⟩
      have z1' : ¬ (60000 : Int) < e.hdr.name.length := by omega
      by_cases z2 : e.hdr.comment.length ≤ 60000
      rotate_left
      · have z2' : (60000 : Int) < e.hdr.comment.length := by omega
        go_wp2
        go_ret
        exact ⟨rfl, HBW.out⟩
      have z2' : ¬ (60000 : Int) < e.hdr.comment.length := by omega
      by_cases z3 : e.data.length ≤ 1048576
      rotate_left
      · have z3' : (1048576 : Int) < e.data.length := by omega
        go_wp2
        go_ret
        exact ⟨rfl, HBW.out⟩
      have z3' : ¬ (1048576 : Int) < e.data.length := by omega
      by_cases z4 : 0 ≤ e.hdr.ext
      rotate_left
      · have z4' : e.hdr.ext < 0 := by omega
        go_wp2
        go_ret
        exact ⟨rfl, HBW.out⟩
      have z4' : ¬ e.hdr.ext < 0 := by omega
      by_cases z5 : e.hdr.ext ≤ 4294967295
      rotate_left
      · have z5' : (4294967295 : Int) < e.hdr.ext := by omega
        go_wp2
        go_ret
        exact ⟨rfl, HBW.out⟩
      have z5' : ¬ (4294967295 : Int) < e.hdr.ext := by omega
      have HSM := Lib.hid (hsmt.out ⟨z1, z2, z3, z4, z5⟩)
      clear hsmt z1 z2 z3 z4 z5
      go_wp2
      exact ⟨⟨j + 1, by go_num, by omega, HSM, HBW⟩, by simp [intOf]; omega⟩
    · obtain rfl : j = es.length := by omega
      have HSM : Hid (∀ e ∈ es, WrS e) := Lib.hid (by
        have h1 := hSm.out
        rwa [List.take_of_length_le (Nat.le_refl _)] at h1)
      clear hSm hl
      by_cases hn : es.length ≤ 1000
      rotate_left
      · have hn' : (1000 : Int) < es.length := by omega
        go_wp2
        go_ret
        exact ⟨rfl, hW.out⟩
      have hn' : ¬ (1000 : Int) < es.length := by omega
      by_cases hcm : c.length ≤ 65535
      rotate_left
      · have hcm' : (65535 : Int) < c.length := by omega
        go_wp2
        go_ret
        exact ⟨rfl, hW.out⟩
      have hcm' : ¬ (65535 : Int) < c.length := by omega
      have HLI := Lib.hid (HV.out.below hW.out)
      have HDR := Lib.hid (directories_any es _ wr HLI.out (by omega) (fun e he => by
        have := (HSM.out e he).name
        omega))
      go_wp2_with fail
      refine HDR.out.mono ?_
      rintro r w5 ⟨rfl, hb5⟩
      have HB5 := Lib.hid (below_up hW.out hb5)
      have HLI5 := Lib.hid (HLI.out.below hb5)
      clear hb5 HDR HLI
      cases hdir : directoriesB es
      · go_wp2
        go_ret
        exact ⟨rfl, HB5.out⟩
      have HDI := Lib.hid (dir_data3 hdir)
      clear hdir
      have HOK : Hid (∀ e ∈ es, WrOk e) := Lib.hid (fun e he => by
        obtain ⟨q1, q2, q3, q4⟩ := HSM.out e he
        exact ⟨q1, q2, q3, q4, HDI.out e he⟩)
      have HPO : Hid (∀ p ∈ wrPs es, PcOk p) := Lib.hid (fun p hp => by
        obtain ⟨e, he, rfl⟩ := List.mem_map.1 hp
        exact wrP_ok (HOK.out e he))
      have HWR := Lib.hid (write_any (N0 := N0) (E0 := E0) es c _ w5 (HE.out.below HB5.out) HLI5.out HOK.out hn hcm)
      clear HLI5 HDI HSM
      go_wp2_with fail
      refine HWR.out.mono ?_
      rintro r w6 ⟨rfl, hb6⟩
      have HB6 := Lib.hid (below_up HB5.out hb6.out)
      have HPL : Hid ((wrPs es).length = es.length) := Lib.hid (by unfold wrPs; rw [List.length_map])
      have HAL := Lib.hid (arcP_len3 (c := c) HPO.out (by have := HPL.out; omega) hcm)
      have HEN := Lib.hid (ends_any (arcP (wrPs es) c) w6 (by have := HAL.out; omega))
      clear hb6 HWR HB5
      go_wp2_with fail
      refine HEN.out.mono ?_
      rintro r w7 ⟨rfl, rfl⟩
      clear HEN
      by_cases h1 : endsL (arcP (wrPs es) c) = 1
      rotate_left
      · have h1' : ¬ ((endsL (arcP (wrPs es) c) : Nat) : Int) = 1 := by omega
        clear h1
        go_wp2
        go_ret
        exact ⟨rfl, HB6.out⟩
      have HPC : Hid (PcsOk (wrPs es) c) := Lib.hid ⟨HPO.out, by have := HPL.out; omega, hcm, h1⟩
      have HNM : Hid (∀ p ∈ wrPs es, p.loc.name = p.hdr.name ∧ p.loc.method = p.hdr.method) := Lib.hid (fun p hp => by
        obtain ⟨e, _, rfl⟩ := List.mem_map.1 hp
        exact wrP_same e)
      rw [h1]
      clear h1 HPO HOK
      have HSC := Lib.hid (scan_any w6 HPC.out HNM.out)
      have HOF := Lib.hid (fun (k : Nat) (hk : k < (wrPs es).length) w' (hE' : Env w' N0 E0) => offset_pcs w' hE' HPC.out hk)
      obtain ⟨ps, hps⟩ : ∃ ps, ps = wrPs es := ⟨_, rfl⟩
      rw [← hps] at HPC HNM HSC HPL HOF HAL ⊢
      clear hps
      obtain ⟨D, hD⟩ : ∃ D, D = arcP ps c := ⟨_, rfl⟩
      have HDL : Hid ((pcsL ps).length ≤ 4294967294) := Lib.hid (arcP_small HPC.out |>.2 |> fun h => by omega)
      rw [← hD] at HSC HOF ⊢
      clear hD HAL
      go_wp2_with fail
      refine HSC.out.mono ?_
      rintro r w8 ⟨vr, rfl, hO, hb8⟩
      have HB8 := Lib.hid (below_up HB6.out hb8.out)
      have hO8 := hO.out
      rw [HPL.out] at hO8
      obtain ⟨rx, rcap, hrf⟩ := own_form hO8
      subst hrf
      have HO8 := hO
      clear hO hO8 hb8 HSC HB6
      go_wp2_with fail
      go_loopw [105] (fun tk wr => ∃ k : Nat, tk = .int .i64 k ∧ k ≤ es.length ∧ Hid (Below w8.heap.size w8 wr)) (fun tk _ => es.length - (intOf tk).toNat)
      case atStart => exact ⟨0, rfl, Nat.zero_le _, Lib.hid (Below.refl _ _)⟩
      case round =>
        obtain ⟨k, rfl, hk, hWr⟩ := hrel
        by_cases hlt : k < es.length
        · have hk2 : k < ps.length := by have := HPL.out; omega
          have HB13 := Lib.hid (below_up HB8.out hWr.out)
          obtain ⟨g, cap, hae, hca, hg, hra⟩ := recAt HO8.out hk2
          rw [HPL.out] at hae hca
          cases hae
          have hra2 := rangeAt_below hWr.out hra hg
          have hgr : g < wr.heap.size := Nat.lt_of_lt_of_le hg hWr.out.size
          have hfl : (pcsL (ps.take k)).length ≤ 4294967294 := Nat.le_trans (pcsL_le ps k) HDL.out
          have hloc := HNM.out _ (List.getElem_mem hk2)
          have hpo := HPC.out.ok _ (List.getElem_mem hk2)
          have hl1x := hpo.ln
          have hl2x := hpo.lx
          -- the place of the record ahead
          have hpre : ∀ n, k = n + 1 → ∃ q, q + 30 ≤ (pcsL (ps.take k)).length ∧ w8.cell? ⟨g, n * 16 + 14, none⟩ = some (.int .i64 (q : Nat)) := by
            rintro n rfl
            obtain ⟨g', cap', hae', _, _, hrp⟩ := recAt HO8.out (by omega : n < ps.length)
            rw [HPL.out] at hae'
            cases hae'
            exact ⟨_, pcsL_up ps n hk2, hrp 14 _ rfl⟩
          have HOFk := Lib.hid (HOF.out k hk2)
          rw [hloc.1] at HOFk hl1x
          generalize ps[k].hdr = hh at hra2 HOFk hl1x
          generalize ps[k].data = dd at hra2
          generalize ps[k].loc.extra = xx at HOFk hl2x
          generalize (pcsL (ps.take k)).length = oo at hra2 HOFk hfl hpre
          clear hra hloc hpo
          have HPRE := Lib.hid hpre
          clear hpre
          go_upto_region 20 with (first | (refine wpList_load_mid rfl 50 _ rfl g (k * 16) rfl (recCells (scanH hh) oo dd) _ hra2 Tryz.underlying50 rfl sizeRec ?_) | (refine wpList_store_blk rfl 50 _ _ rfl wr.heap.size _ _ 50 (Blk.new _ _ _) rfl rfl (by kernel_rfl) rfl rfl ?_; intro hst hfr; have HST := Lib.hid (And.intro hst hfr); clear hst hfr; revert HST; generalize (World.setCells _ _ _ _) = wA; intro HST))
          have hbA : Below wr.heap.size wr wA := ((Below.refl wr.heap.size wr).alloc (Nat.le_refl _) (.cells _ _)).trans (HST.out.2.below (by simp) (fun i hi e => by subst e; omega))
          have HBA := Lib.hid (below_up HB13.out hbA)
          have HWA := Lib.hid (below_up hWr.out hbA)
          have HRa := Lib.hid (HOFk.out wA (HE.out.below HBA.out))
          clear hbA hra2 HB13 HOFk
          go_wp2_with fail
          refine HRa.out.mono ?_
          rintro r wB ⟨rfl, hbB⟩
          have HBB := Lib.hid (below_up HBA.out hbB.out)
          have HWB := Lib.hid (below_up HWA.out hbB.out)
          have B0 : Blk wB wr.heap.size (recCells (scanH hh) oo dd).toArray 50 := below_blk hbB.out HST.out.1
          have d0 : wB.cell? ⟨wr.heap.size, 0, none⟩ = some (.string (B hh.name)) := B0.cell 0
          have d14 : wB.cell? ⟨wr.heap.size, 14, none⟩ = some (.int .i64 oo) := B0.cell 14
          clear B0 hbB HRa HST HBA HWA
          have w30 : IntKind.i64.wrap ((oo : Int) + 30) = (oo : Int) + 30 := by rw [IntKind.wrap_i64]; omega
          have w31 : IntKind.i64.wrap ((oo : Int) + 30 + (hh.name.length : Int)) = (oo : Int) + 30 + (hh.name.length : Int) := by rw [IntKind.wrap_i64]; omega
          have hat : (((oo + (30 + hh.name.length + xx.length) : Nat) : Int) < (oo : Int) + 30 + (hh.name.length : Int)) = False := eq_false (by omega)
          have hat2 : ((oo : Int) + (30 + (hh.name.length : Int) + (xx.length : Int)) < (oo : Int) + 30 + (hh.name.length : Int)) = False := eq_false (by omega)
          rcases Nat.eq_zero_or_pos k with hk0 | hk0
          · subst hk0
            clear HPRE
            go_upto_region 21 with fail
            refine wp_region_quiet_lit (by kernel_rfl) (by kernel_rfl) ?_
            repeat (first | go_big_quiet_skip | quiet_step (fail))
            refine wpQuiet_nil ?_
            intro wx hw'
            obtain ⟨nq, rfl⟩ := hw'
            have FIN : Hid (Below w8.heap.size w8 (wB.drewN nq)) := Lib.hid (((Fr.of_below (S := fun _ => False) HWB.out).drewN nq).below (Nat.le_refl _) (fun _ _ h => h))
            clear d0 d14 w30 w31 hat hat2
            go_wp2
            exact ⟨⟨1, by go_num, by omega, FIN⟩, by simp [intOf]; omega⟩
          · obtain ⟨n, rfl⟩ : ∃ n, k = n + 1 := ⟨k - 1, by omega⟩
            obtain ⟨q, hq1, hq2⟩ := HPRE.out n rfl
            have hkz : (0 : Int) < (n : Int) + 1 := by omega
            have wn : IntKind.i64.wrap (n : Int) = (n : Int) := by rw [IntKind.wrap_i64]; omega
            have wn1 : (n : Int) < (es.length : Int) := by omega
            have hle : ((oo : Int) ≤ (q : Int)) = False := eq_false (by omega)
            have d2 : wB.cell? ⟨g, n * 16 + 14, none⟩ = some (.int .i64 (q : Nat)) := keep HWB.out hg hq2
            go_upto_region 21 with fail
            refine wp_region_quiet_lit (by kernel_rfl) (by kernel_rfl) ?_
            repeat (quiet_step (fail))
            refine wpQuiet_nil ?_
            intro wx hw'
            obtain ⟨nq, rfl⟩ := hw'
            have FIN : Hid (Below w8.heap.size w8 (wB.drewN nq)) := Lib.hid (((Fr.of_below (S := fun _ => False) HWB.out).drewN nq).below (Nat.le_refl _) (fun _ _ h => h))
            clear d0 d14 d2 w30 w31 hat hat2 hkz wn wn1 hle
            go_wp2
            exact ⟨⟨n + 1 + 1, by go_num, by omega, FIN⟩, by simp [intOf]; omega⟩
        · obtain rfl : k = es.length := by omega
          have HB13 := Lib.hid (below_up HB8.out hWr.out)
          have HRE := Lib.hid (writes_any (E0 := E0) (N0 := N0) wr (HE.out.below HB13.out))
          go_wp2_with fail
          refine HRE.out.mono ?_
          rintro r w16 ⟨rfl, hb16⟩
          have FIN := Lib.hid (below_up HB13.out hb16)
          clear hb16 HRE
          go_wp2
          go_ret
          exact ⟨rfl, FIN.out⟩
end Go.Proofs.Zip
namespace Go.Proofs.YtidmhfhfcoljeaaGreatDoor
open Go Go.ChangeShapes Go.WideShapes Go.ChangeAt Go.RowKit Go.Proofs.Zip Go.Deep
namespace fnWriteLocal
abbrev fid : Nat := 7
set_option maxRecDepth 100000 in
/-- What the list gives: the variables, as the walks read them. -/
theorem env_of6 {W : World} (h : laidMet Tryz.prog Rows.fnWriteLocalRow.laid W) : ∃ E0, Env W W.heap.size E0 := by
  have hu : Lib.Utf8Tabs 12 13 W :=
    utf8Tabs_of_reads Tryz.lays260 u8x (Lib.laidMet.reads h (by rw [← first_eq]; repeat (first | exact List.Mem.head _ | apply List.Mem.tail))) (Lib.laidMet.reads h (by rw [← accept_eq]; exact List.Mem.head _))
  have h1 := h.tail
  have h2 := h1.tail
  have h3 := h2.tail
  have h4 := h3.tail
  have h5 := h4.tail
  have h6 := h5.tail
  have h7 := h6.tail
  have h8 := h7.tail
  have h9 := h8.tail
  have h10 := h9.tail
  obtain ⟨aE, sE, iE, cE, tE⟩ := sent_head h3 (g := 5) (by kernel_rfl) (by kernel_rfl)
  obtain ⟨aU, sU, iU, cU, tU⟩ := sent_head h4 (g := 4) (by kernel_rfl) (by kernel_rfl)
  obtain ⟨aF, sF, iF, cF, tF⟩ := sent_head h7 (g := 1) (by kernel_rfl) (by kernel_rfl)
  obtain ⟨aA, sA, iA, cA, tA⟩ := sent_head h8 (g := 2) (by kernel_rfl) (by kernel_rfl)
  obtain ⟨aC, sC, iC, cC, tC⟩ := sent_head h9 (g := 3) (by kernel_rfl) (by kernel_rfl)
  obtain ⟨aI, sI, iI, cI, tI⟩ := sent_head h10 (g := 0) (by kernel_rfl) (by kernel_rfl)
  have ne : ∀ {a b : Addr} {s t : ByteArray} {l m : List UInt8}, W.cell? a = some (.string s) → W.cell? b = some (.string t) → s.data.toList = l → t.data.toList = m → l.length ≠ m.length → a ≠ b := by
    rintro a b s t l m h1 h2 rfl rfl h3 rfl
    rw [h1] at h2
    simp at h2
    exact h3 (by rw [h2])
  refine ⟨{ fmt := aF, eof := aE, alg := aA, chk := aC, unx := aU, ins := aI }, iF, iE, iA, iC, iU, iI, hu, ?_, ?_, Nat.le_refl _, ?_⟩
  · exact Nat.lt_of_le_of_lt (Nat.le_refl _) (World.block_lt_of_cell? W ⟨12, 0, none⟩ (hu.1 0 (by decide)))
  · exact Nat.lt_of_le_of_lt (Nat.le_refl _) (World.block_lt_of_cell? W ⟨13, 2 * 0, none⟩ (hu.2 0 (by decide)).1)
  · exact ⟨ne cF cE tF tE (by decide), ne cF cA tF tA (by decide), ne cF cC tF tC (by decide), ne cF cU tF tU (by decide), ne cF cI tF tI (by decide), ne cE cA tE tA (by decide), ne cE cC tE tC (by decide), ne cE cU tE tU (by decide), ne cE cI tE tI (by decide), ne cA cC tA tC (by decide), ne cA cU tA tU (by decide), ne cC cU tC tU (by decide), ne cU cI tU tI (by decide)⟩
theorem varsOk6 : varsRowed Tryz.prog Rows.fnWriteLocalSpec.vars = true := by kernel_rfl
/-- The six named variables. -/
theorem six_of_vars {H : Type} {enc : TypeId × Value → H} {P : Program} {W : World} {sp : Nat → Bool} {n1 n2 n3 n4 n5 n6 : String} {gs : List (DataW H)} {ps : List MemPlace} (h : DataW.TrodVars enc P W sp [n1, n2, n3, n4, n5, n6] gs ps) : ∃ g1 g2 g3 g4 g5 g6, gs = [g1, g2, g3, g4, g5, g6] := by
  have step : ∀ {n : String} {ns : List String} {gs : List (DataW H)} {ps : List MemPlace}, DataW.TrodVars enc P W sp (n :: ns) gs ps → ∃ g gs' ps', gs = g :: gs' ∧ DataW.TrodVars enc P W sp ns gs' ps' := by
    intro n ns gs ps h
    match gs, h with
    | [], h => exact h.elim
    | g :: gs', h => (obtain ⟨_, _, _, _, _, _, _, _, _, _, h, _⟩ := h; exact ⟨g, gs', _, rfl, h⟩)
  obtain ⟨g1, r1, _, rfl, k1⟩ := step h
  obtain ⟨g2, r2, _, rfl, k2⟩ := step k1
  obtain ⟨g3, r3, _, rfl, k3⟩ := step k2
  obtain ⟨g4, r4, _, rfl, k4⟩ := step k3
  obtain ⟨g5, r5, _, rfl, k5⟩ := step k4
  obtain ⟨g6, r6, _, rfl, k6⟩ := step k5
  match r6, k6 with
  | [], _ => exact ⟨g1, g2, g3, g4, g5, g6, rfl⟩
  | _ :: _, h => exact h.elim
set_option maxRecDepth 100000 in
/-- What the walk gives, for every input that can be read. -/
theorem contract (H : Type) (enc : TypeId × Value → H) (W : World) (base : Nat) (args : Array Value) (ds gs : List (DataW H)) (before : List MemPlace)
    (hval : ∀ (j : Nat) t v, Tryz.f7.params[j]? = some t → args[j]? = some v → Value.okWide Tryz.prog W .any base t v)
    (hW : DataW.Whole enc Tryz.prog Tryz.f7.params.toList Rows.fnWriteLocalSpec.vars false W args.toList ds gs before) (hL : laidMetH Tryz.prog Rows.fnWriteLocalRow.laid W) :
    Calls Tryz.prog 7 args W fun e W' => ∃ v, e = .returned v ∧ Rows.fnWriteLocalSpec.post enc Tryz.prog Tryz.f7 false true false false W args v W' := by
  have hW' := hW
  obtain ⟨p, q, hA0, hV, rfl, _, _⟩ := hW
  have hA : DataW.TrodAll enc Tryz.prog W 0 (fun _ => true) true Tryz.f7.params.toList args.toList ds p := hA0
  rw [Tryz.params7] at hA hval
  obtain ⟨v0, vs0, d0, ds0, p0, q0, hargs, rfl, rfl, h0, r0⟩ := trodAll_cons hA
  obtain ⟨v1, vs1, d1, ds1, p1, q1, rfl, rfl, rfl, h1, r1⟩ := trodAll_cons r0
  obtain ⟨rfl, rfl, rfl⟩ := trodAll_nil r1
  obtain rfl : args = #[v0, v1] := by cases args; simp_all
  obtain ⟨E0, hE⟩ : ∃ E0, Env W W.heap.size E0 := by
    rw [MakeChecks.laidMetH_plain _ _ _ (by kernel_rfl)] at hL
    exact env_of6 hL
  have hk0 := h0
  have hk1 := h1
  obtain ⟨es0, hes0, hel0⟩ := rd_list h0 (okWide_slice Tryz.underlying22 (hval 0 22 v0 rfl rfl))
  obtain ⟨c1, rfl, hc1⟩ : ∃ l : List UInt8, v1 = .string (B l) ∧ l.length ≤ 9223372036854775807 := rd_text h1 (hval 1 9 v1 rfl rfl)
  have hlt : ∀ x ∈ ((p0 ++ (p1 ++ []))) ++ q, x.block < W.heap.size := fun x hx => by simpa using hW'.lt x (by simpa using hx)
  refine (writeLocal_any es0 c1 v0 W hE hes0 hel0 hc1).mono fun e W' ⟨he, hb⟩ => ?_
  subst he
  have hV' := Below.trodVars laidOut hb varsOk6 hV
  obtain ⟨g1, g2, g3, g4, g5, g6, rfl⟩ := six_of_vars hV
  refine ⟨_, rfl, _, _, _, [], p0 ++ (p1 ++ ([])), q, hW', trodAll_cons_mk (shut_bool Tryz.underlying4 true) trodAll_mk0, ?_, hV', hb.frame _, fun h => by cases h⟩
  exact trodAll_cons_mk (Below.trod laidOut (by kernel_rfl) (of_decide_eq_true (by kernel_rfl)) hk0 hb (fun x hx => hlt x (by simp [hx]))) (trodAll_cons_mk (Below.trod laidOut (by kernel_rfl) (of_decide_eq_true (by kernel_rfl)) hk1 hb (fun x hx => hlt x (by simp [hx]))) (trodAll_mk0))
set_option maxRecDepth 100000 in
theorem lifted (os : Os) (started : os.Started) (H : Type) (enc : TypeId × Value → H) :
    ReturnsInHanded {} Tryz.checked os 7 .any (fun w args => (Rows.fnWriteLocalSpec.pre enc Tryz.prog Tryz.f7 Rows.fnWriteLocalRow.domain false w args ∧ laidMetH Tryz.prog Rows.fnWriteLocalRow.laid w) ∧ sizedMet enc Tryz.prog Tryz.f7 (OpenSpec.ofChange Rows.fnWriteLocalSpec) false w args)
      (Rows.fnWriteLocalSpec.post enc Tryz.prog Tryz.f7 false true false false) := by
  refine returnsInHanded_of_change_and (C := Tryz.checked) (X := fun w _ => laidMetH Tryz.prog Rows.fnWriteLocalRow.laid w) (fun _ _ _ hh h => h.of_heap hh) own started (by kernel_rfl) Tryz.func7
    (ChangeSpec.witness_shaped (enc := enc) (C := Tryz.checked) (os := os) (X := fun w _ => laidMetH Tryz.prog Rows.fnWriteLocalRow.laid w) false (World.laidAll Tryz.prog os Rows.fnWriteLocalRow.laid) #[.slice none 0 0, .string ByteArray.empty] 8 (World.laidAll_os _ _ _)
      (World.shaped_of_ZipB (by kernel_rfl) (by kernel_rfl)) (by kernel_rfl) (by kernel_rfl) (by kernel_rfl)
      (by rw [MakeChecks.laidMetH_plain _ _ _ (by kernel_rfl)]; exact laidMet_laidAll _ (by kernel_rfl) (by kernel_rfl))) ?_
  intro W base args ds gs before hval hW _ _ hL _
  exact contract H enc W base args ds gs before hval hW hL
set_option maxRecDepth 100000 in
set_option maxHeartbeats 8000000 in
theorem closed : joinedFacts Tryz.pinned.checked.prog 7 Tryz.f7 Rows.fnWriteLocalSpec Rows.fnWriteLocalRow = true := by
  unfold joinedFacts
  rw [show Tryz.pinned.checked.prog = Tryz.prog from rfl, head_enter, head_final, head_make]
  repeat' (with_reducible refine Bool.and_eq_true_iff.2 ⟨?_, ?_⟩)
  all_goals as_aux_lemma => kernel_rfl
theorem wrapped : Tryz.f7.isWrapper Tryz.pinned.checked.prog Rows.fnWriteLocalRow.wrapper Rows.fnWriteLocalRow.mainSum := by unfold Func.isWrapper; first | (rw [if_pos (by decide +kernel)]; kernel_rfl) | (rw [if_neg (by decide +kernel)]; exact ⟨rfl, rfl⟩)
set_option maxRecDepth 100000 in
theorem said : Rows.FnWriteLocalSaid :=
  OpenClaim.holds_of_wide 7 Tryz.f7 rfl rfl rfl rfl rfl rfl rfl ⟨rfl, rfl, rfl, rfl, rfl⟩ rfl rfl rfl rfl rfl (by kernel_rfl) Tryz.func7 closed
    (of_decide_eq_true (by kernel_rfl)) wrapped
    (fun os started H enc _ => lifted os started H enc)
/-- No parameter wants a stand-in. -/
theorem plain (f : FuncId) (fn : Func) (hf : Tryz.pinned.checked.prog.funcNamed "loop.example/pub-ziparchives/laws.FnWriteLocal" = some f) (hfn : Tryz.pinned.checked.prog.funcs[f]? = some fn) :
    true = Tryz.pinned.checked.prog.looks [] ∧ ∀ (j : Nat) t, fn.params[j]? = some t → Tryz.pinned.checked.prog.wantsStandIn t = false := by
  obtain rfl : f = 7 := Option.some.inj ((show Tryz.prog.funcNamed "loop.example/pub-ziparchives/laws.FnWriteLocal" = some 7 by kernel_rfl).symm.trans hf) |>.symm
  obtain rfl : fn = Tryz.f7 := (Option.some.inj (Tryz.func7.symm.trans hfn)).symm
  refine ⟨by kernel_rfl, fun j t ht => ?_⟩
  rw [Tryz.params7] at ht
  have hm : t ∈ [22, 9] := by simpa using Array.mem_of_getElem? ht
  have hall : ([22, 9].all fun u => !Tryz.prog.wantsStandIn u) = true := by kernel_rfl
  exact (show Tryz.prog.wantsStandIn t = false by simpa using List.all_eq_true.1 hall t hm)
set_option maxRecDepth 100000 in
/-- THE CARD. -/
theorem card : Rows.FnWriteLocalCardSaid :=
  Claim7.holds_tied_plain_at .later [] _ _ _ _ said (fun _ h => by cases h) (by kernel_rfl) (fun _ h => by cases h) fnWriteLocal_row_tie rfl ⟨rfl, rfl⟩ head_main rfl plain (by kernel_rfl)
end fnWriteLocal
end Go.Proofs.YtidmhfhfcoljeaaGreatDoor
