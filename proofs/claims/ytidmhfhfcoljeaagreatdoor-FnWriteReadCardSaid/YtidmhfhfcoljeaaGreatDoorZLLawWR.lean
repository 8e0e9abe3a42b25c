/- What is proved: for every list of entries and every comment, FnWriteRead returns true and leaves its arguments as they read: what is written is read back. Conditions: none beyond the row's own: the arguments can be read as data, and the package variables that the row lists hold what the program's text lays (the card ties that). -/
import Derived.Test.YtidmhfhfcoljeaaGreatDoorZV
import Derived.Test.YtidmhfhfcoljeaaGreatDoorZSf
import Derived.Test.YtidmhfhfcoljeaaGreatDoorZSd
import Derived.Test.YtidmhfhfcoljeaaGreatDoorZR
namespace Go.Proofs.Zip
open Go Go.RowKit
theorem dir_data4 {es : List E} (h : directoriesB es = true) : ∀ e ∈ es, slash e.hdr.name = true → e.data = [] := by
  intro e he hs
  have := List.all_eq_true.1 h e he
  simp only [dirOk, Bool.not_eq_true', Bool.and_eq_false_iff] at this
  rw [slash_eq] at hs
  rcases this with h | h
  · rw [hs] at h; cases h
  · simp at h; exact h
theorem arcP_len4 {ps : List Pc} {c : List UInt8} (h : ∀ p ∈ ps, PcOk p) (hn : ps.length ≤ 1000) (hc : c.length ≤ 65535) : (arcP ps c).length ≤ 4294967294 := by
  have h1 := pcsL_ok h
  have h2 := catP_ok h 0
  unfold arcP
  rw [List.length_append, List.length_append, length_endL]
  omega
theorem hsP_wr (es : List E) (k : Nat) (h : k < es.length) : ∃ a, (hsP (wrPs es) 0)[k]? = some ((wrP es[k]).hdr, a) := by
  have h' : k < (wrPs es).length := by unfold wrPs; rw [List.length_map]; exact h
  have := hsP_get (wrPs es) 0 k h'
  have e : (wrPs es)[k].hdr = (wrP es[k]).hdr := by simp [wrPs]
  rw [e] at this
  exact ⟨_, this⟩
theorem wrP_told {e : E} (h : WrOk e) : (wrP e).hdr.name = e.hdr.name ∧ (wrP e).hdr.comment = e.hdr.comment ∧ (wrP e).hdr.size = (e.data.length : Int) := by
  unfold wrP
  split
  · rename_i hs
    rw [h.dir hs]
    exact ⟨rfl, rfl, rfl⟩
  · exact ⟨rfl, rfl, rfl⟩
/-- An entry whose parts are small. -/
structure WrS4 (e : E) : Prop where
  name : e.hdr.name.length ≤ 60000
  comment : e.hdr.comment.length ≤ 60000
  data : e.data.length ≤ 1048576
  ext : 0 ≤ e.hdr.ext ∧ e.hdr.ext ≤ 4294967295
set_option maxRecDepth 100000 in
set_option maxHeartbeats 20000000 in
theorem writeRead_any {N0 : Nat} {E0 : Errs} (es : List E) (c : List UInt8) (v : Value) (w : World) (hE : Env w N0 E0) (hv : IsList w v es) (hlen : es.length ≤ 9223372036854775807) (hc : c.length ≤ 9223372036854775807) :
    Calls Tryz.prog 9 #[v, .string (B c)] w fun e w' => e = .returned (.bool true) ∧ Below w.heap.size w w' := by
  have HFT := Lib.hid (fits1_any es v w hv hlen)
  have HE := Lib.hid hE
  obtain ⟨va, vcap, hvf, hl⟩ := hv
  have HV : Hid (IsList w v es) := Lib.hid ⟨va, vcap, hvf, hl⟩
  subst hvf
  clear hE
  go_enter Tryz.func9, Tryz.ntmps9
  go_wp2_with fail
  refine HFT.out.mono ?_
  rintro e w1 ⟨rfl, hb1⟩
  have HB1 := Lib.hid hb1
  clear hb1 HFT
  cases hft : fits1 es
  · go_wp2
    go_ret
    exact ⟨rfl, HB1.out⟩
  obtain ⟨hl1, hl2⟩ := fits1_small hft
  clear hft hl2
  by_cases hcl : c.length ≤ 2147483647
  rotate_left
  · have hcl' : (2147483647 : Int) < c.length := by omega
    go_wp2
    go_ret
    exact ⟨rfl, HB1.out⟩
  have hcl' : ¬ (2147483647 : Int) < c.length := by omega
  go_wp2_with fail
  go_loopw [24] (fun tj wr => ∃ j : Nat, tj = .int .i64 j ∧ j ≤ es.length ∧ Hid (∀ e ∈ es.take j, WrS4 e) ∧ Hid (Below w.heap.size w wr)) (fun tj _ => es.length - (intOf tj).toNat)
  case atStart => exact ⟨0, rfl, Nat.zero_le _, Lib.hid (fun e he => by simp at he), HB1⟩
  case round =>
    obtain ⟨j, rfl, hj, hSm, hW⟩ := hrel
    by_cases hlt : j < es.length
    · obtain ⟨b, off, rfl, hblt, hr⟩ := hl (fun e => by simp [e] at hlt)
      have hr := rangeAt_below hW.out (hr j es[j] (List.getElem?_eq_getElem hlt)) hblt
      have hsmt : Hid (WrS4 es[j] → ∀ e ∈ es.take (j + 1), WrS4 e) := Lib.hid (fun h e he => by
        rw [List.take_succ_eq_append_getElem hlt] at he
        rcases List.mem_append.1 he with he | he
        · exact hSm.out e he
        · cases List.mem_singleton.1 he; exact h)
      generalize es[j] = e at hr hsmt
      clear hl hblt
      have hBW : Below w.heap.size w (wr.alloc (.cells e.cells.toArray 38)) := hW.out.alloc hW.out.size _
      have HBW := Lib.hid hBW
      have HBK := Lib.hid (Blk.new wr e.cells.toArray 38)
      clear hBW
      go_upto_region 6 with (first
          | (refine wpList_load_mid rfl 38 _ rfl b (off + j * 15) rfl e.cells _ hr Tryz.underlying38 rfl sizeEnt ?_)
          | (refine wpList_alloc_store 38 _ _ e.cells rfl rfl rfl rfl rfl rfl sizesEnt rfl ?_))
      have k0 : (wr.alloc (.cells e.cells.toArray 38)).cell? ⟨wr.heap.size, 0, none⟩ = some (.string (B e.hdr.name)) := HBK.out.cell 0
      have k1 : (wr.alloc (.cells e.cells.toArray 38)).cell? ⟨wr.heap.size, 1, none⟩ = some (.string (B e.hdr.comment)) := HBK.out.cell 1
      have k13 : (wr.alloc (.cells e.cells.toArray 38)).cell? ⟨wr.heap.size, 13, none⟩ = some (.int .i64 e.hdr.ext) := HBK.out.cell 13
      have k14 : (wr.alloc (.cells e.cells.toArray 38)).cell? ⟨wr.heap.size, 14, none⟩ = some (.string (B e.data)) := HBK.out.cell 14
      clear HBK hr
      generalize wr.alloc (.cells e.cells.toArray 38) = w2 at HBW k0 k1 k13 k14 ⊢
      by_cases z1 : e.hdr.name.length ≤ 60000
      rotate_left
      · have z1' : (60000 : Int) < e.hdr.name.length := by omega
        go_wp2
        go_ret
        exact ⟨rfl, HBW.out⟩
      have z1' : ¬ (60000 : Int) < e.hdr.name.length := by omega
      by_cases z2 : e.hdr.comment.length ≤ 60000
      rotate_left
      · have z2' : (60000 : Int) < e.hdr.comment.length := by omega
        go_wp2
        go_ret
        exact ⟨rfl, HBW.out⟩
      have z2' : ¬ (60000 : Int) < e.hdr.comment.length := by omega
      by_cases z3 : e.data.length ≤ 1048576
      rotate_left
      · have z3' : (1048576 : Int) < e.data.length := by omega
        go_wp2
        go_ret
        exact ⟨rfl, HBW.out⟩
      have z3' : ¬ (1048576 : Int) < e.data.length := by omega
      by_cases z4 : 0 ≤ e.hdr.ext
      rotate_left
      · have z4' : e.hdr.ext < 0 := by omega
        go_wp2
        go_ret
        exact ⟨rfl, HBW.out⟩
      have z4' : ¬ e.hdr.ext < 0 := by omega
      by_cases z5 : e.hdr.ext ≤ 4294967295
      rotate_left
      · have z5' : (4294967295 : Int) < e.hdr.ext := by omega
        go_wp2
        go_ret
        exact ⟨rfl, HBW.out⟩
      have z5' : ¬ (4294967295 : Int) < e.hdr.ext := by omega
      have HSM := Lib.hid (hsmt.out ⟨z1, z2, z3, z4, z5⟩)
      clear hsmt z1 z2 z3 z4 z5
      go_wp2
      exact ⟨⟨j + 1, by go_num, by omega, HSM, HBW⟩, by simp [intOf]; omega⟩
    · obtain rfl : j = es.length := by omega
      have HSM : Hid (∀ e ∈ es, WrS4 e) := Lib.hid (by
        have h1 := hSm.out
        rwa [List.take_of_length_le (Nat.le_refl _)] at h1)
      clear hSm hl
      by_cases hn : es.length ≤ 1000
      rotate_left
      · have hn' : (1000 : Int) < es.length := by omega
        go_wp2
        go_ret
        exact ⟨rfl, hW.out⟩
      have hn' : ¬ (1000 : Int) < es.length := by omega
      by_cases hcm : c.length ≤ 65535
      rotate_left
      · have hcm' : (65535 : Int) < c.length := by omega
        go_wp2
        go_ret
        exact ⟨rfl, hW.out⟩
      have hcm' : ¬ (65535 : Int) < c.length := by omega
      have HLI := Lib.hid (HV.out.below hW.out)
      have HDR := Lib.hid (directories_any es _ wr HLI.out (by omega) (fun e he => by
        have := (HSM.out e he).name
        omega))
      go_wp2_with fail
      refine HDR.out.mono ?_
      rintro r w5 ⟨rfl, hb5⟩
      have HB5 := Lib.hid (below_up hW.out hb5)
      have HLI5 := Lib.hid (HLI.out.below hb5)
      clear hb5 HDR HLI
      cases hdir : directoriesB es
      · go_wp2
        go_ret
        exact ⟨rfl, HB5.out⟩
      have HDI := Lib.hid (dir_data4 hdir)
      clear hdir
      have HOK : Hid (∀ e ∈ es, WrOk e) := Lib.hid (fun e he => by
        obtain ⟨q1, q2, q3, q4⟩ := HSM.out e he
        exact ⟨q1, q2, q3, q4, HDI.out e he⟩)
      have HPO : Hid (∀ p ∈ wrPs es, PcOk p) := Lib.hid (fun p hp => by
        obtain ⟨e, he, rfl⟩ := List.mem_map.1 hp
        exact wrP_ok (HOK.out e he))
      have HWR := Lib.hid (write_any (N0 := N0) (E0 := E0) es c _ w5 (HE.out.below HB5.out) HLI5.out HOK.out hn hcm)
      clear HLI5 HDI HSM
      go_wp2_with fail
      refine HWR.out.mono ?_
      rintro r w6 ⟨rfl, hb6⟩
      have HB6 := Lib.hid (below_up HB5.out hb6.out)
      have HPL : Hid ((wrPs es).length = es.length) := Lib.hid (by unfold wrPs; rw [List.length_map])
      have HAL := Lib.hid (arcP_len4 (c := c) HPO.out (by have := HPL.out; omega) hcm)
      have HEN := Lib.hid (ends_any (arcP (wrPs es) c) w6 (by have := HAL.out; omega))
      clear hb6 HWR HB5
      go_wp2_with fail
      refine HEN.out.mono ?_
      rintro r w7 ⟨rfl, rfl⟩
      clear HEN
      by_cases h1 : endsL (arcP (wrPs es) c) = 1
      rotate_left
      · have h1' : ¬ ((endsL (arcP (wrPs es) c) : Nat) : Int) = 1 := by omega
        clear h1
        go_wp2
        go_ret
        exact ⟨rfl, HB6.out⟩
      have HPC : Hid (PcsOk (wrPs es) c) := Lib.hid ⟨HPO.out, by have := HPL.out; omega, hcm, h1⟩
      rw [h1]
      clear h1 HPO
      have HRD := Lib.hid (read_pcs w6 (HE.out.below HB6.out) HPC.out)
      have HCT := Lib.hid (fun (k : Nat) (hk : k < es.length) w' (hE' : Env w' N0 E0) => content_pcs w' hE' HPC.out HOK.out hk)
      have HLL : Hid (∀ k (h : k < es.length), ∃ a, ((hsP (wrPs es) 0).map toldOf)[k]? = some (toldOf ((wrP es[k]).hdr, a))) := Lib.hid (fun k h => by
        obtain ⟨a, ha⟩ := hsP_wr es k h
        exact ⟨a, by rw [List.getElem?_map, ha]; rfl⟩)
      obtain ⟨D, hD⟩ : ∃ D, D = arcP (wrPs es) c := ⟨_, rfl⟩
      rw [← hD] at HRD HCT ⊢
      clear hD HAL
      go_wp2_with fail
      refine HRD.out.mono ?_
      rintro r w8 ⟨vr, rfl, hOa, hb8⟩
      have HB8 := Lib.hid (below_up HB6.out hb8.out)
      obtain ⟨xa, ca, rfl⟩ := own_form hOa.out
      have hln : ((hsP (wrPs es) 0).map toldOf).length = es.length := by rw [List.length_map, hsP_length, HPL.out]
      obtain ⟨l, hl⟩ : ∃ l, l = (hsP (wrPs es) 0).map toldOf := ⟨_, rfl⟩
      have hlnl : ((hsP (wrPs es) 0).map toldOf).length = l.length := by rw [hl]
      rw [← hl] at hln hOa HLL
      rw [hlnl, hln]
      have HOA := Lib.hid hOa.out
      have HLN := Lib.hid hln
      clear hl hlnl hln hb8 HRD HB6 hOa HPC HPL
      go_wp2_with (first | (refine wpList_alloc_store 28 _ _ [.bool true, .string (B c), .slice xa es.length ca] rfl rfl rfl rfl rfl rfl sizesLst rfl ?_))
      go_loopw [108] (fun tk wr => ∃ k : Nat, tk = .int .i64 k ∧ k ≤ es.length ∧ Hid (Below w8.heap.size w8 wr)) (fun tk _ => es.length - (intOf tk).toNat)
      case atStart => exact ⟨0, rfl, Nat.zero_le _, Lib.hid ((Below.refl _ _).alloc (Nat.le_refl _) _)⟩
      case round =>
        obtain ⟨k, rfl, hk, hWr⟩ := hrel
        by_cases hlt : k < es.length
        · have hkl : k < l.length := by have := HLN.out; omega
          obtain ⟨a0, hla⟩ := HLL.out k hlt
          obtain ⟨ga, ca', hae, hca, hga, hra⟩ := hdrAt HOA.out hkl
          have hlk : l[k] = toldOf ((wrP es[k]).hdr, a0) := by rw [List.getElem?_eq_getElem hkl] at hla; exact Option.some.inj hla
          rw [hlk] at hra
          have HB13 := Lib.hid (below_up HB8.out hWr.out)
          obtain ⟨tn, tc, tz⟩ := wrP_told (HOK.out es[k] (List.getElem_mem hlt))
          obtain ⟨gb, offb, capb, hve, hgb, hrb⟩ := HV.out.at hlt
          have hlca : es.length ≤ ca := by have := HLN.out; cases hae; omega
          cases hae
          cases hve
          have hra2 := rangeAt_below hWr.out hra hga
          have hrb2 := rangeAt_below HB13.out hrb hgb
          have hgbr : gb < wr.heap.size := Nat.lt_of_lt_of_le hgb HB13.out.size
          have HCTk := Lib.hid (HCT.out k hlt)
          clear hra hrb hlk hla hca hkl
          generalize (wrP es[k]).hdr = hh at hra2 tn tc tz
          generalize es[k] = e at hrb2 HCTk tn tc tz
          go_upto_region 20 with (first | (refine wpList_load_mid rfl 36 _ rfl ga (k * 14) rfl (toldOf (hh, a0)).cells _ hra2 Tryz.underlying36 rfl sizeHdr ?_) | (refine wpList_store_blk rfl 36 _ _ rfl wr.heap.size _ _ 36 (Blk.new _ _ _) rfl rfl (by kernel_rfl) rfl rfl ?_; intro hst hfr; have HST := Lib.hid (And.intro hst hfr); clear hst hfr; revert HST; generalize (World.setCells _ _ _ _) = wA; intro HST))
          have hbA : Below wr.heap.size wr wA := ((Below.refl wr.heap.size wr).alloc (Nat.le_refl _) (.cells _ _)).trans (HST.out.2.below (by simp) (fun i hi e => by subst e; omega))
          have HBA := Lib.hid (below_up HB13.out hbA)
          have HWA := Lib.hid (below_up hWr.out hbA)
          have HrA := Lib.hid (rangeAt_below hbA hrb2 hgbr)
          have hgA : gb < wA.heap.size := Nat.lt_of_lt_of_le hgbr hbA.size
          have HRa := Lib.hid (HCTk.out wA (HE.out.below HBA.out))
          clear hbA hra2 hrb2 HB13 HCTk
          go_wp2_with fail
          refine HRa.out.mono ?_
          rintro r wB ⟨rfl, hbB⟩
          have B0 := below_blk hbB.out HST.out.1
          have HWB := Lib.hid (below_up HWA.out hbB.out)
          have hrB := rangeAt_below hbB.out HrA.out hgA
          have d0 : wB.cell? ⟨wr.heap.size, 0, none⟩ = some (.string (B e.hdr.name)) := by rw [← tn]; exact B0.cell 0
          have d1 : wB.cell? ⟨wr.heap.size, 1, none⟩ = some (.string (B e.hdr.comment)) := by rw [← tc]; exact B0.cell 1
          have d12 : wB.cell? ⟨wr.heap.size, 12, none⟩ = some (.int .i64 e.data.length) := by rw [← tz]; exact B0.cell 12
          have e0 : wB.cell? ⟨gb, offb + k * 15, none⟩ = some (.string (B e.hdr.name)) := hrB 0 _ rfl
          have e1 : wB.cell? ⟨gb, offb + k * 15 + 1, none⟩ = some (.string (B e.hdr.comment)) := hrB 1 _ rfl
          have e14 : wB.cell? ⟨gb, offb + k * 15 + 14, none⟩ = some (.string (B e.data)) := hrB 14 _ rfl
          clear B0 hrB hbB HRa HST HrA HBA HWA tn tc tz
          go_upto_region 21 with fail
          refine wp_region_quiet_lit (by kernel_rfl) (by kernel_rfl) ?_
          repeat (first | go_big_quiet_skip | quiet_step (fail))
          refine wpQuiet_nil ?_
          intro wx hw'
          obtain ⟨nq, rfl⟩ := hw'
          have FIN : Hid (Below w8.heap.size w8 (wB.drewN nq)) := Lib.hid (((Fr.of_below (S := fun _ => False) HWB.out).drewN nq).below (Nat.le_refl _) (fun _ _ h => h))
          clear d0 d1 d12 e0 e1 e14
          go_wp2
          exact ⟨⟨k + 1, by go_num, by omega, FIN⟩, by simp [intOf]; omega⟩
        · obtain rfl : k = es.length := by omega
          have HB13 := Lib.hid (below_up HB8.out hWr.out)
          have HRE := Lib.hid (writes_any (E0 := E0) (N0 := N0) wr (HE.out.below HB13.out))
          go_wp2_with fail
          refine HRE.out.mono ?_
          rintro r w16 ⟨rfl, hb16⟩
          have FIN := Lib.hid (below_up HB13.out hb16)
          clear hb16 HRE
          go_wp2
          go_ret
          exact ⟨rfl, FIN.out⟩
end Go.Proofs.Zip
namespace Go.Proofs.YtidmhfhfcoljeaaGreatDoor
open Go Go.ChangeShapes Go.WideShapes Go.ChangeAt Go.RowKit Go.Proofs.Zip Go.Deep
namespace fnWriteRead
abbrev fid : Nat := 9
set_option maxRecDepth 100000 in
/-- What the list gives: the variables, as the walks read them. -/
theorem env_of6 {W : World} (h : laidMet Tryz.prog Rows.fnWriteReadRow.laid W) : ∃ E0, Env W W.heap.size E0 := by
  have hu : Lib.Utf8Tabs 12 13 W :=
    utf8Tabs_of_reads Tryz.lays260 u8x (Lib.laidMet.reads h (by rw [← first_eq]; repeat (first | exact List.Mem.head _ | apply List.Mem.tail))) (Lib.laidMet.reads h (by rw [← accept_eq]; exact List.Mem.head _))
  have h1 := h.tail
  have h2 := h1.tail
  have h3 := h2.tail
  have h4 := h3.tail
  have h5 := h4.tail
  have h6 := h5.tail
  have h7 := h6.tail
  have h8 := h7.tail
  have h9 := h8.tail
  have h10 := h9.tail
  obtain ⟨aE, sE, iE, cE, tE⟩ := sent_head h3 (g := 5) (by kernel_rfl) (by kernel_rfl)
  obtain ⟨aU, sU, iU, cU, tU⟩ := sent_head h4 (g := 4) (by kernel_rfl) (by kernel_rfl)
  obtain ⟨aF, sF, iF, cF, tF⟩ := sent_head h7 (g := 1) (by kernel_rfl) (by kernel_rfl)
  obtain ⟨aA, sA, iA, cA, tA⟩ := sent_head h8 (g := 2) (by kernel_rfl) (by kernel_rfl)
  obtain ⟨aC, sC, iC, cC, tC⟩ := sent_head h9 (g := 3) (by kernel_rfl) (by kernel_rfl)
  obtain ⟨aI, sI, iI, cI, tI⟩ := sent_head h10 (g := 0) (by kernel_rfl) (by kernel_rfl)
  have ne : ∀ {a b : Addr} {s t : ByteArray} {l m : List UInt8}, W.cell? a = some (.string s) → W.cell? b = some (.string t) → s.data.toList = l → t.data.toList = m → l.length ≠ m.length → a ≠ b := by
    rintro a b s t l m h1 h2 rfl rfl h3 rfl
    rw [h1] at h2
    simp at h2
    exact h3 (by rw [h2])
  refine ⟨{ fmt := aF, eof := aE, alg := aA, chk := aC, unx := aU, ins := aI }, iF, iE, iA, iC, iU, iI, hu, ?_, ?_, Nat.le_refl _, ?_⟩
  · exact Nat.lt_of_le_of_lt (Nat.le_refl _) (World.block_lt_of_cell? W ⟨12, 0, none⟩ (hu.1 0 (by decide)))
  · exact Nat.lt_of_le_of_lt (Nat.le_refl _) (World.block_lt_of_cell? W ⟨13, 2 * 0, none⟩ (hu.2 0 (by decide)).1)
  · exact ⟨ne cF cE tF tE (by decide), ne cF cA tF tA (by decide), ne cF cC tF tC (by decide), ne cF cU tF tU (by decide), ne cF cI tF tI (by decide), ne cE cA tE tA (by decide), ne cE cC tE tC (by decide), ne cE cU tE tU (by decide), ne cE cI tE tI (by decide), ne cA cC tA tC (by decide), ne cA cU tA tU (by decide), ne cC cU tC tU (by decide), ne cU cI tU tI (by decide)⟩
theorem varsOk6 : varsRowed Tryz.prog Rows.fnWriteReadSpec.vars = true := by kernel_rfl
/-- The six named variables. -/
theorem six_of_vars {H : Type} {enc : TypeId × Value → H} {P : Program} {W : World} {sp : Nat → Bool} {n1 n2 n3 n4 n5 n6 : String} {gs : List (DataW H)} {ps : List MemPlace} (h : DataW.TrodVars enc P W sp [n1, n2, n3, n4, n5, n6] gs ps) : ∃ g1 g2 g3 g4 g5 g6, gs = [g1, g2, g3, g4, g5, g6] := by
  have step : ∀ {n : String} {ns : List String} {gs : List (DataW H)} {ps : List MemPlace}, DataW.TrodVars enc P W sp (n :: ns) gs ps → ∃ g gs' ps', gs = g :: gs' ∧ DataW.TrodVars enc P W sp ns gs' ps' := by
    intro n ns gs ps h
    match gs, h with
    | [], h => exact h.elim
    | g :: gs', h => (obtain ⟨_, _, _, _, _, _, _, _, _, _, h, _⟩ := h; exact ⟨g, gs', _, rfl, h⟩)
  obtain ⟨g1, r1, _, rfl, k1⟩ := step h
  obtain ⟨g2, r2, _, rfl, k2⟩ := step k1
  obtain ⟨g3, r3, _, rfl, k3⟩ := step k2
  obtain ⟨g4, r4, _, rfl, k4⟩ := step k3
  obtain ⟨g5, r5, _, rfl, k5⟩ := step k4
  obtain ⟨g6, r6, _, rfl, k6⟩ := step k5
  match r6, k6 with
  | [], _ => exact ⟨g1, g2, g3, g4, g5, g6, rfl⟩
  | _ :: _, h => exact h.elim
set_option maxRecDepth 100000 in
/-- What the walk gives, for every input that can be read. -/
theorem contract (H : Type) (enc : TypeId × Value → H) (W : World) (base : Nat) (args : Array Value) (ds gs : List (DataW H)) (before : List MemPlace)
    (hval : ∀ (j : Nat) t v, Tryz.f9.params[j]? = some t → args[j]? = some v → Value.okWide Tryz.prog W .any base t v)
    (hW : DataW.Whole enc Tryz.prog Tryz.f9.params.toList Rows.fnWriteReadSpec.vars false W args.toList ds gs before) (hL : laidMetH Tryz.prog Rows.fnWriteReadRow.laid W) :
    Calls Tryz.prog 9 args W fun e W' => ∃ v, e = .returned v ∧ Rows.fnWriteReadSpec.post enc Tryz.prog Tryz.f9 false true false false W args v W' := by
  have hW' := hW
  obtain ⟨p, q, hA0, hV, rfl, _, _⟩ := hW
  have hA : DataW.TrodAll enc Tryz.prog W 0 (fun _ => true) true Tryz.f9.params.toList args.toList ds p := hA0
  rw [Tryz.params9] at hA hval
  obtain ⟨v0, vs0, d0, ds0, p0, q0, hargs, rfl, rfl, h0, r0⟩ := trodAll_cons hA
  obtain ⟨v1, vs1, d1, ds1, p1, q1, rfl, rfl, rfl, h1, r1⟩ := trodAll_cons r0
  obtain ⟨rfl, rfl, rfl⟩ := trodAll_nil r1
  obtain rfl : args = #[v0, v1] := by cases args; simp_all
  obtain ⟨E0, hE⟩ : ∃ E0, Env W W.heap.size E0 := by
    rw [MakeChecks.laidMetH_plain _ _ _ (by kernel_rfl)] at hL
    exact env_of6 hL
  have hk0 := h0
  have hk1 := h1
  obtain ⟨es0, hes0, hel0⟩ := rd_list h0 (okWide_slice Tryz.underlying22 (hval 0 22 v0 rfl rfl))
  obtain ⟨c1, rfl, hc1⟩ : ∃ l : List UInt8, v1 = .string (B l) ∧ l.length ≤ 9223372036854775807 := rd_text h1 (hval 1 9 v1 rfl rfl)
  have hlt : ∀ x ∈ ((p0 ++ (p1 ++ []))) ++ q, x.block < W.heap.size := fun x hx => by simpa using hW'.lt x (by simpa using hx)
  refine (writeRead_any es0 c1 v0 W hE hes0 hel0 hc1).mono fun e W' ⟨he, hb⟩ => ?_
  subst he
  have hV' := Below.trodVars laidOut hb varsOk6 hV
  obtain ⟨g1, g2, g3, g4, g5, g6, rfl⟩ := six_of_vars hV
  refine ⟨_, rfl, _, _, _, [], p0 ++ (p1 ++ ([])), q, hW', trodAll_cons_mk (shut_bool Tryz.underlying4 true) trodAll_mk0, ?_, hV', hb.frame _, fun h => by cases h⟩
  exact trodAll_cons_mk (Below.trod laidOut (by kernel_rfl) (of_decide_eq_true (by kernel_rfl)) hk0 hb (fun x hx => hlt x (by simp [hx]))) (trodAll_cons_mk (Below.trod laidOut (by kernel_rfl) (of_decide_eq_true (by kernel_rfl)) hk1 hb (fun x hx => hlt x (by simp [hx]))) (trodAll_mk0))
set_option maxRecDepth 100000 in
theorem lifted (os : Os) (started : os.Started) (H : Type) (enc : TypeId × Value → H) :
    ReturnsInHanded {} Tryz.checked os 9 .any (fun w args => (Rows.fnWriteReadSpec.pre enc Tryz.prog Tryz.f9 Rows.fnWriteReadRow.domain false w args ∧ laidMetH Tryz.prog Rows.fnWriteReadRow.laid w) ∧ sizedMet enc Tryz.prog Tryz.f9 (OpenSpec.ofChange Rows.fnWriteReadSpec) false w args)
      (Rows.fnWriteReadSpec.post enc Tryz.prog Tryz.f9 false true false false) := by
  refine returnsInHanded_of_change_and (C := Tryz.checked) (X := fun w _ => laidMetH Tryz.prog Rows.fnWriteReadRow.laid w) (fun _ _ _ hh h => h.of_heap hh) own started (by kernel_rfl) Tryz.func9
    (ChangeSpec.witness_shaped (enc := enc) (C := Tryz.checked) (os := os) (X := fun w _ => laidMetH Tryz.prog Rows.fnWriteReadRow.laid w) false (World.laidAll Tryz.prog os Rows.fnWriteReadRow.laid) #[.slice none 0 0, .string ByteArray.empty] 8 (World.laidAll_os _ _ _)
      (World.shaped_of_ZipB (by kernel_rfl) (by kernel_rfl)) (by kernel_rfl) (by kernel_rfl) (by kernel_rfl)
      (by rw [MakeChecks.laidMetH_plain _ _ _ (by kernel_rfl)]; exact laidMet_laidAll _ (by kernel_rfl) (by kernel_rfl))) ?_
  intro W base args ds gs before hval hW _ _ hL _
  exact contract H enc W base args ds gs before hval hW hL
set_option maxRecDepth 100000 in
set_option maxHeartbeats 8000000 in
theorem closed : joinedFacts Tryz.pinned.checked.prog 9 Tryz.f9 Rows.fnWriteReadSpec Rows.fnWriteReadRow = true := by
  unfold joinedFacts
  rw [show Tryz.pinned.checked.prog = Tryz.prog from rfl, head_enter, head_final, head_make]
  repeat' (with_reducible refine Bool.and_eq_true_iff.2 ⟨?_, ?_⟩)
  all_goals as_aux_lemma => kernel_rfl
theorem wrapped : Tryz.f9.isWrapper Tryz.pinned.checked.prog Rows.fnWriteReadRow.wrapper Rows.fnWriteReadRow.mainSum := by unfold Func.isWrapper; first | (rw [if_pos (by decide +kernel)]; kernel_rfl) | (rw [if_neg (by decide +kernel)]; exact ⟨rfl, rfl⟩)
set_option maxRecDepth 100000 in
theorem said : Rows.FnWriteReadSaid :=
  OpenClaim.holds_of_wide 9 Tryz.f9 rfl rfl rfl rfl rfl rfl rfl ⟨rfl, rfl, rfl, rfl, rfl⟩ rfl rfl rfl rfl rfl (by kernel_rfl) Tryz.func9 closed
    (of_decide_eq_true (by kernel_rfl)) wrapped
    (fun os started H enc _ => lifted os started H enc)
/-- No parameter wants a stand-in. -/
theorem plain (f : FuncId) (fn : Func) (hf : Tryz.pinned.checked.prog.funcNamed "loop.example/pub-ziparchives/laws.FnWriteRead" = some f) (hfn : Tryz.pinned.checked.prog.funcs[f]? = some fn) :
    true = Tryz.pinned.checked.prog.looks [] ∧ ∀ (j : Nat) t, fn.params[j]? = some t → Tryz.pinned.checked.prog.wantsStandIn t = false := by
  obtain rfl : f = 9 := Option.some.inj ((show Tryz.prog.funcNamed "loop.example/pub-ziparchives/laws.FnWriteRead" = some 9 by kernel_rfl).symm.trans hf) |>.symm
  obtain rfl : fn = Tryz.f9 := (Option.some.inj (Tryz.func9.symm.trans hfn)).symm
  refine ⟨by kernel_rfl, fun j t ht => ?_⟩
  rw [Tryz.params9] at ht
  have hm : t ∈ [22, 9] := by simpa using Array.mem_of_getElem? ht
  have hall : ([22, 9].all fun u => !Tryz.prog.wantsStandIn u) = true := by kernel_rfl
  exact (show Tryz.prog.wantsStandIn t = false by simpa using List.all_eq_true.1 hall t hm)
set_option maxRecDepth 100000 in
/-- THE CARD. -/
theorem card : Rows.FnWriteReadCardSaid :=
  Claim7.holds_tied_plain_at .later [] _ _ _ _ said (fun _ h => by cases h) (by kernel_rfl) (fun _ h => by cases h) fnWriteRead_row_tie rfl ⟨rfl, rfl⟩ head_main rfl plain (by kernel_rfl)
end fnWriteRead
end Go.Proofs.YtidmhfhfcoljeaaGreatDoor
