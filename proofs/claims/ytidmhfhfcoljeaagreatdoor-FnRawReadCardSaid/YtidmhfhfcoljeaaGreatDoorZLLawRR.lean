/- What is proved: for every list of entries and every comment, FnRawRead returns true and leaves its arguments as they read: what is written as it is is read back as it is, with the same bytes. Conditions: none beyond the row's own: the arguments can be read as data, and the package variables that the row lists hold what the program's text lays (the card ties that). -/
import Derived.Test.YtidmhfhfcoljeaaGreatDoorZV
import Derived.Test.YtidmhfhfcoljeaaGreatDoorZWc
import Derived.Test.YtidmhfhfcoljeaaGreatDoorZSd
import Derived.Test.YtidmhfhfcoljeaaGreatDoorZR
namespace Go.Proofs.Zip
open Go Go.RowKit
theorem dir_data2 {es : List E} (h : directoriesB es = true) : ∀ e ∈ es, slash e.hdr.name = true → e.data = [] := by
  intro e he hs
  have := List.all_eq_true.1 h e he
  simp only [dirOk, Bool.not_eq_true', Bool.and_eq_false_iff] at this
  rw [slash_eq] at hs
  rcases this with h | h
  · rw [hs] at h; cases h
  · simp at h; exact h
/-- An entry that may be written as it is. -/
def RawOk (e : E) : Prop := headerOk e.hdr = true ∧ simpleB e.hdr = true ∧ e.data.length ≤ 1048576
theorem rawP_ok {e : E} (h : RawOk e) (hp : e.hdr.packed = (e.data.length : Int)) : PcOk (rawP e.hdr e.data) := by
  have hk := HOk.of h.1
  exact ⟨h.1, hk.name, hk.extra, h.2.2, by simp, hp⟩
theorem arcP_len {ps : List Pc} {c : List UInt8} (h : ∀ p ∈ ps, PcOk p) (hn : ps.length ≤ 1000) (hc : c.length ≤ 65535) : (arcP ps c).length ≤ 4294967294 := by
  have h1 := pcsL_ok h
  have h2 := catP_ok h 0
  unfold arcP
  rw [List.length_append, List.length_append, length_endL]
  omega
theorem hsP_raw (es : List E) (k : Nat) (h : k < es.length) : ∃ a, (hsP (rawPs es) 0)[k]? = some (es[k].hdr, a) := by
  have h' : k < (rawPs es).length := by unfold rawPs; rw [List.length_map]; exact h
  have := hsP_get (rawPs es) 0 k h'
  have e : (rawPs es)[k].hdr = es[k].hdr := by simp [rawPs]
  rw [e] at this
  exact ⟨_, this⟩
set_option maxRecDepth 100000 in
set_option maxHeartbeats 20000000 in
theorem rawRead_any {N0 : Nat} {E0 : Errs} (es : List E) (c : List UInt8) (v : Value) (w : World) (hE : Env w N0 E0) (hv : IsList w v es) (hlen : es.length ≤ 9223372036854775807) (hc : c.length ≤ 9223372036854775807) (hnil : Hid (∀ n cap, v = .slice none n cap → cap = 0)) :
    Calls Tryz.prog 8 #[v, .string (B c)] w fun e w' => e = .returned (.bool true) ∧ Below w.heap.size w w' := by
  have HFT := Lib.hid (fits1_any es v w hv hlen)
  have HE := Lib.hid hE
  have HV := Lib.hid hv
  clear hE hv
  go_enter Tryz.func8, Tryz.ntmps8
  go_wp2_with fail
  refine HFT.out.mono ?_
  rintro e w1 ⟨rfl, hb1⟩
  have HB1 := Lib.hid hb1
  clear hb1 HFT
  cases hft : fits1 es
  · go_wp2
    go_ret
    exact ⟨rfl, HB1.out⟩
  obtain ⟨hl1, hl2⟩ := fits1_small hft
  have HL2 := Lib.hid hl2
  clear hft hl2
  by_cases hcl : c.length ≤ 2147483647
  rotate_left
  · have hcl' : (2147483647 : Int) < c.length := by omega
    go_wp2
    go_ret
    exact ⟨rfl, HB1.out⟩
  have hcl' : ¬ (2147483647 : Int) < c.length := by omega
  have HV1 := Lib.hid (HV.out.below HB1.out)
  have HVA : Hid (∀ o, IsList (w1.alloc o) v es) := Lib.hid fun o => HV1.out.below ((Below.refl w1.heap.size w1).alloc (Nat.le_refl _) o)
  go_wp2_with (at_builtin; refine wpList_app_list rfl _ _ rfl w1.heap.size (.slice (some ⟨w1.heap.size, 0, none⟩) 0 0) rfl ⟨rfl, .inr ⟨_, 0, _, rfl, Nat.le_refl _, heap_alloc_last _ _, Nat.le_refl _, by decide, rfl, rfl⟩⟩ (by simp) es v rfl (HVA.out _) hnil.out hl1 ?_)
  intro u w2 hown hfr
  obtain ⟨vx, vcap, hvf⟩ := own_form hown
  subst hvf
  have hb2 : Below w.heap.size w w2 := HB1.out.trans (((Below.refl w1.heap.size w1).alloc (Nat.le_refl _) (.cells #[] 38)).trans (hfr.below (by simp) (fun i hi e => by simp [Value.ownBlock] at e; omega)) |>.mono HB1.out.size)
  have HB2 := Lib.hid hb2
  have HOWN := Lib.hid hown
  have hz1 := HB1.out.size
  clear hown hfr hb2 HVA HV1 HV
  go_wp2_with fail
  go_loopw [27] (fun tj wr => ∃ j : Nat, tj = .int .i64 j ∧ j ≤ es.length ∧ Hid (∀ e ∈ es.take j, RawOk (packE e)) ∧ Hid (wr.ownsRow w1.heap.size 38 15 (.slice vx es.length vcap) es.length (rows (packL es j))) ∧ Hid (Below w.heap.size w wr)) (fun tj _ => es.length - (intOf tj).toNat)
  case atStart => exact ⟨0, rfl, Nat.zero_le _, Lib.hid (fun e he => by simp at he), Lib.hid (by rw [packL_zero]; exact HOWN.out), HB2⟩
  case round =>
    obtain ⟨j, rfl, hj, hSm, hO, hW⟩ := hrel
    by_cases hlt : j < es.length
    · have hpl := packL_length es j hj
      have hO2 := hO.out
      rw [← hpl] at hO2
      obtain ⟨g, cap, hue, hgb, hgl, hfz, hr, hset⟩ := ownRows_at hO2 (by omega : j < (packL es j).length)
      rw [packL_get es j hlt] at hr hset
      have hset2 := hset 11 (.int .i64 es[j].data.length) (packE es[j]) (by decide) rfl
      rw [← packL_succ es j hlt, packL_length es (j + 1) hlt, hpl] at hset2
      have hdl := HL2.out es[j] (List.getElem_mem hlt)
      have hn1 := packL_length es (j + 1) hlt
      have hr3 : (wr.setCell ⟨g, j * 15 + 11, none⟩ (.int .i64 es[j].data.length)).rangeAt g (j * 15) (packE es[j]).cells := by
        obtain ⟨g', cap', hue', _, _, _, hr', _⟩ := ownRows_at (es := packL es (j + 1)) (by rw [hn1]; exact hset2) (by omega : j < (packL es (j + 1)).length)
        have e1 : (packL es (j + 1))[j]'(by omega) = packE es[j] := by simp [packL_succ es j hlt]
        rw [e1] at hr'
        have e2 : vx = some ⟨g, 0, none⟩ := by
          simp only [Value.slice.injEq] at hue
          exact hue.1
        have e3 : vx = some ⟨g', 0, none⟩ := by
          simp only [Value.slice.injEq] at hue'
          exact hue'.1
        rw [e2] at e3
        simp only [Option.some.injEq, Addr.mk.injEq] at e3
        obtain ⟨rfl, _⟩ := e3
        exact hr'
      clear hn1
      have hsmt : Hid (RawOk (packE es[j]) → ∀ e ∈ es.take (j + 1), RawOk (packE e)) := Lib.hid (fun h e he => by
        rw [List.take_succ_eq_append_getElem hlt] at he
        rcases List.mem_append.1 he with he | he
        · exact hSm.out e he
        · cases List.mem_singleton.1 he; exact h)
      generalize es[j] = e at hr hset2 hdl hsmt hr3
      simp only [Value.slice.injEq] at hue
      obtain ⟨rfl, _, rfl⟩ := hue
      have c14 : wr.cell? ⟨g, j * 15 + 14, none⟩ = some (.string (B e.data)) := hr 14 _ rfl
      have c11 : wr.cell? ⟨g, j * 15 + 11, none⟩ = some (.int .i64 e.hdr.packed) := hr 11 _ rfl
      have f11 : wr.frozen? ⟨g, j * 15 + 11, none⟩ = false := hfz _
      have HSET := Lib.hid hset2
      have HGB := Lib.hid hgb
      have hrh : (wr.setCell ⟨g, j * 15 + 11, none⟩ (.int .i64 e.data.length)).rangeAt g (j * 15) (packE e).hdr.cells := rangeAt_part (n := 0) hr3 rfl
      have HR3 := Lib.hid hr3
      have hgl2 : g < (wr.setCell ⟨g, j * 15 + 11, none⟩ (.int .i64 e.data.length)).heap.size := by simpa using hgl
      have HGL := Lib.hid hgl2
      have HW2 : Hid (Below w.heap.size w (wr.setCell ⟨g, j * 15 + 11, none⟩ (.int .i64 e.data.length))) := Lib.hid (hW.out.setCell (by show w.heap.size ≤ g; omega) _)
      have HK := Lib.hid (headerOk_any (packE e).hdr (wr.setCell ⟨g, j * 15 + 11, none⟩ (.int .i64 e.data.length)))
      clear hset hset2 hr hr3 hfz hgb hO2 hpl hO hgl2
      go_wp2_with (first | (refine wpList_load_mid rfl 36 _ rfl g (j * 15) rfl (packE e).hdr.cells _ hrh Tryz.underlying36 rfl sizeHdr ?_))
      refine HK.out.mono ?_
      rintro r w3 ⟨rfl, hb3⟩
      have HB3 := Lib.hid (below_up HW2.out hb3)
      have HO3 := Lib.hid (ownsRow_below HSET.out hb3)
      have hr4 := rangeAt_below hb3 HR3.out HGL.out
      have k0 : w3.cell? ⟨g, j * 15, none⟩ = some (.string (B e.hdr.name)) := hr4 0 _ rfl
      have k1 : w3.cell? ⟨g, j * 15 + 1, none⟩ = some (.string (B e.hdr.comment)) := hr4 1 _ rfl
      have k2 : w3.cell? ⟨g, j * 15 + 2, none⟩ = some (.string (B e.hdr.extra)) := hr4 2 _ rfl
      have k3 : w3.cell? ⟨g, j * 15 + 3, none⟩ = some (.bool e.hdr.non) := hr4 3 _ rfl
      have k4 : w3.cell? ⟨g, j * 15 + 4, none⟩ = some (.int .i64 e.hdr.creator) := hr4 4 _ rfl
      have k5 : w3.cell? ⟨g, j * 15 + 5, none⟩ = some (.int .i64 e.hdr.reader) := hr4 5 _ rfl
      have k6 : w3.cell? ⟨g, j * 15 + 6, none⟩ = some (.int .i64 e.hdr.flags) := hr4 6 _ rfl
      have k7 : w3.cell? ⟨g, j * 15 + 7, none⟩ = some (.int .i64 e.hdr.method) := hr4 7 _ rfl
      have k8 : w3.cell? ⟨g, j * 15 + 8, none⟩ = some (.int .i64 e.hdr.time) := hr4 8 _ rfl
      have k9 : w3.cell? ⟨g, j * 15 + 9, none⟩ = some (.int .i64 e.hdr.date) := hr4 9 _ rfl
      have k10 : w3.cell? ⟨g, j * 15 + 10, none⟩ = some (.int .i64 e.hdr.crc) := hr4 10 _ rfl
      have k11 : w3.cell? ⟨g, j * 15 + 11, none⟩ = some (.int .i64 e.data.length) := hr4 11 _ rfl
      have k12 : w3.cell? ⟨g, j * 15 + 12, none⟩ = some (.int .i64 e.hdr.size) := hr4 12 _ rfl
      have k13 : w3.cell? ⟨g, j * 15 + 13, none⟩ = some (.int .i64 e.hdr.ext) := hr4 13 _ rfl
      have HR4 := Lib.hid hr4
      have hg3 := Nat.lt_of_lt_of_le HGL.out hb3.size
      clear hb3 HK hrh hr4 c14 c11 f11 HSET HW2
      cases hko : headerOk (packE e).hdr
      · go_wp2
        go_ret
        exact ⟨rfl, HB3.out⟩
      have HS := Lib.hid (simple_any (packE e).hdr w3)
      have HG3 := Lib.hid hg3
      clear hg3
      go_wp2_with fail
      refine HS.out.mono ?_
      rintro r w4 ⟨rfl, hb4⟩
      have HB4 := Lib.hid (below_up HB3.out hb4)
      have HO4 := Lib.hid (ownsRow_below HO3.out hb4)
      have hr5 := rangeAt_below hb4 HR4.out HG3.out
      clear hb4 HS HB3 HO3 k0 k1 k2 k3 k4 k5 k6 k7 k8 k9 k10 k11 k12 k13
      cases hsm : simpleB (packE e).hdr
      · go_wp2
        go_ret
        exact ⟨rfl, HB4.out⟩
      have c14 : w4.cell? ⟨g, j * 15 + 14, none⟩ = some (.string (B e.data)) := hr5 14 _ rfl
      by_cases hdm : e.data.length ≤ 1048576
      rotate_left
      · have hdm' : (1048576 : Int) < e.data.length := by omega
        go_wp2
        go_ret
        exact ⟨rfl, HB4.out⟩
      have hdm' : ¬ (1048576 : Int) < e.data.length := by omega
      have HSM := Lib.hid (hsmt.out ⟨hko, hsm, hdm⟩)
      clear hsm hsmt hko hdm hr5
      go_wp2
      exact ⟨⟨j + 1, by go_num, by omega, HSM, HO4, HB4⟩, by simp [intOf]; omega⟩
    · obtain rfl : j = es.length := by omega
      obtain ⟨es', hes'⟩ : ∃ l, l = es.map packE := ⟨_, rfl⟩
      have hlen' : es'.length = es.length := by rw [hes']; simp
      have hO2 := hO.out
      rw [packL_all, ← hes', ← hlen'] at hO2
      have HLI := Lib.hid (isList_own hO2)
      rw [hlen'] at HLI
      have HOW := Lib.hid hO2
      have HPK : Hid (∀ e ∈ es', RawOk e ∧ e.hdr.packed = (e.data.length : Int)) := Lib.hid (by
        have h1 := hSm.out
        rw [List.take_of_length_le (Nat.le_refl _)] at h1
        intro e he
        rw [hes'] at he
        obtain ⟨x, hx, rfl⟩ := List.mem_map.1 he
        exact ⟨h1 x hx, rfl⟩)
      have HLE := Lib.hid hlen'
      clear hO2 hO hes' HOWN HB2 hlen' hSm
      by_cases hn : es.length ≤ 1000
      rotate_left
      · have hn' : (1000 : Int) < es.length := by omega
        go_wp2
        go_ret
        exact ⟨rfl, hW.out⟩
      have hn' : ¬ (1000 : Int) < es.length := by omega
      by_cases hcm : c.length ≤ 65535
      rotate_left
      · have hcm' : (65535 : Int) < c.length := by omega
        go_wp2
        go_ret
        exact ⟨rfl, hW.out⟩
      have hcm' : ¬ (65535 : Int) < c.length := by omega
      have HDR := Lib.hid (directories_any es' _ wr HLI.out (by have := HLE.out; omega) (fun e he => by
        have := (HOk.of (HPK.out e he).1.1).name
        omega))
      go_wp2_with fail
      refine HDR.out.mono ?_
      rintro r w5 ⟨rfl, hb5⟩
      have HB5 := Lib.hid (below_up hW.out hb5)
      have HLI5 := Lib.hid (HLI.out.below hb5)
      have HO5 := Lib.hid (ownsRow_below HOW.out hb5)
      clear hb5 HDR HLI HOW
      cases hdir : directoriesB es'
      · go_wp2
        go_ret
        exact ⟨rfl, HB5.out⟩
      have HDI := Lib.hid (dir_data2 hdir)
      clear hdir
      have HPO : Hid (∀ p ∈ rawPs es', PcOk p) := Lib.hid (fun p hp => by
        obtain ⟨e, he, rfl⟩ := List.mem_map.1 hp
        exact rawP_ok (HPK.out e he).1 (HPK.out e he).2)
      have HWR := Lib.hid (writeRaw_any es' c _ w5 HLI5.out HPO.out (fun e he => simple_bit (HOk.of (HPK.out e he).1.1).flags (HPK.out e he).1.2.1) HDI.out (by have := HLE.out; omega) hcm)
      clear HLI5 HDI
      go_wp2_with fail
      refine HWR.out.mono ?_
      rintro r w6 ⟨rfl, hb6⟩
      have HB6 := Lib.hid (below_up HB5.out hb6.out)
      have HO6 := Lib.hid (ownsRow_below HO5.out hb6.out)
      have HPL : Hid ((rawPs es').length = es'.length) := Lib.hid (by unfold rawPs; rw [List.length_map])
      have HAL := Lib.hid (arcP_len (c := c) HPO.out (by have := HPL.out; have := HLE.out; omega) hcm)
      have HEN := Lib.hid (ends_any (arcP (rawPs es') c) w6 (by have := HAL.out; omega))
      clear hb6 HWR HB5 HO5
      go_wp2_with fail
      refine HEN.out.mono ?_
      rintro r w7 ⟨rfl, rfl⟩
      clear HEN
      by_cases h1 : endsL (arcP (rawPs es') c) = 1
      rotate_left
      · have h1' : ¬ ((endsL (arcP (rawPs es') c) : Nat) : Int) = 1 := by omega
        clear h1
        go_wp2
        go_ret
        exact ⟨rfl, HB6.out⟩
      have HPC : Hid (PcsOk (rawPs es') c) := Lib.hid ⟨HPO.out, by have := HPL.out; have := HLE.out; omega, hcm, h1⟩
      rw [h1]
      clear h1 HAL HPO
      have HRD := Lib.hid (read_pcs w6 (HE.out.below HB6.out) HPC.out)
      obtain ⟨D, hD⟩ : ∃ D, D = arcP (rawPs es') c := ⟨_, rfl⟩
      have HD := Lib.hid hD
      rw [← hD] at HRD ⊢
      clear hD
      go_wp2_with fail
      refine HRD.out.mono ?_
      rintro r w8 ⟨va, rfl, hOa, hb8⟩
      have HB8 := Lib.hid (below_up HB6.out hb8.out)
      have HO8 := Lib.hid (ownsRow_below HO6.out hb8.out)
      obtain ⟨xa, ca, rfl⟩ := own_form hOa.out
      have hln : ((hsP (rawPs es') 0).map toldOf).length = es.length := by rw [List.length_map, hsP_length, HPL.out, HLE.out]
      have HLL : Hid (∀ k (h : k < es'.length), ∃ a, ((hsP (rawPs es') 0).map toldOf)[k]? = some (toldOf (es'[k].hdr, a))) := Lib.hid (fun k h => by
        obtain ⟨a, ha⟩ := hsP_raw es' k h
        exact ⟨a, by rw [List.getElem?_map, ha]; rfl⟩)
      obtain ⟨l, hl⟩ : ∃ l, l = (hsP (rawPs es') 0).map toldOf := ⟨_, rfl⟩
      have hlnl : ((hsP (rawPs es') 0).map toldOf).length = l.length := by rw [hl]
      rw [← hl] at hln hOa HLL
      rw [hlnl, hln]
      have HOA := Lib.hid hOa.out
      have HLN := Lib.hid hln
      clear hl hlnl hln hb8 HRD HB6 HO6 hOa
      go_wp2_with (first | (refine wpList_alloc_store 28 _ _ [.bool true, .string (B c), .slice xa es.length ca] rfl rfl rfl rfl rfl rfl sizesLst rfl ?_))
      go_loopw [116] (fun tk wr => ∃ k : Nat, tk = .int .i64 k ∧ k ≤ es.length ∧ Hid (Below w8.heap.size w8 wr)) (fun tk _ => es.length - (intOf tk).toNat)
      case atStart => exact ⟨0, rfl, Nat.zero_le _, Lib.hid ((Below.refl _ _).alloc (Nat.le_refl _) _)⟩
      case round =>
        obtain ⟨k, rfl, hk, hWr⟩ := hrel
        by_cases hlt : k < es.length
        · have hk2 : k < es'.length := by have := HLE.out; omega
          have hkl : k < l.length := by have := HLN.out; omega
          have hk3 : k < (rawPs es').length := by have := HPL.out; omega
          obtain ⟨a0, hla⟩ := HLL.out k hk2
          obtain ⟨ga, ca', hae, hca, hga, hra⟩ := hdrAt HOA.out hkl
          have hlk : l[k] = toldOf (es'[k].hdr, a0) := by rw [List.getElem?_eq_getElem hkl] at hla; exact Option.some.inj hla
          rw [hlk] at hra
          have HB13 := Lib.hid (below_up HB8.out hWr.out)
          obtain ⟨gb, cb, hbe, hgb0, hgb, _, hrb, _⟩ := ownRows_at HO8.out hk2
          have hlca : es.length ≤ ca := by have := HLN.out; cases hae; omega
          cases hae
          cases hbe
          have hra2 := rangeAt_below hWr.out hra hga
          have hrb2 := rangeAt_below hWr.out hrb hgb
          have hgar : ga < wr.heap.size := Nat.lt_of_lt_of_le hga hWr.out.size
          have hgbr : gb < wr.heap.size := Nat.lt_of_lt_of_le hgb hWr.out.size
          have HRW : Hid (∀ w', Env w' N0 E0 → Calls Tryz.prog 17 #[.string (B D), .int .i64 k] w' fun e w'' => e = .returned (.tuple #[.string (B es'[k].data), .int .i64 0]) ∧ Hid (Below w'.heap.size w' w'')) := Lib.hid fun w' hE' => by
            have e : (rawPs es')[k].data = es'[k].data := by simp [rawPs]
            have := raw_pcs w' hE' HPC.out hk3
            rw [e, ← HD.out] at this
            exact this
          clear hra hrb hlk hla hca hkl hk3
          generalize es'[k] = e at hra2 hrb2 HRW
          go_upto_region 22 with (first | (refine wpList_load_mid rfl 36 _ rfl ga (k * 14) rfl (toldOf (e.hdr, a0)).cells _ hra2 Tryz.underlying36 rfl sizeHdr ?_) | (refine wpList_store_blk rfl 36 _ _ rfl wr.heap.size _ _ 36 (Blk.new _ _ _) rfl rfl (by kernel_rfl) rfl rfl ?_; intro hst hfr; have HST := Lib.hid (And.intro hst hfr); clear hst hfr; revert HST; generalize (World.setCells _ _ _ _) = wA; intro HST))
          have hbA : Below wr.heap.size wr wA := ((Below.refl wr.heap.size wr).alloc (Nat.le_refl _) (.cells _ _)).trans (HST.out.2.below (by simp) (fun i hi e => by subst e; omega))
          have HBA := Lib.hid (below_up HB13.out hbA)
          have HWA := Lib.hid (below_up hWr.out hbA)
          have HrA := Lib.hid (rangeAt_below hbA hrb2 hgbr)
          have hgA : gb < wA.heap.size := Nat.lt_of_lt_of_le hgbr hbA.size
          have HRa := Lib.hid (HRW.out wA (HE.out.below HBA.out))
          clear hbA hra2 hrb2 HB13 HRW
          go_wp2_with fail
          refine HRa.out.mono ?_
          rintro r wB ⟨rfl, hbB⟩
          have D0 := below_blk hbB.out HST.out.1
          have hrB := rangeAt_below hbB.out HrA.out hgA
          have hrhB : wB.rangeAt gb (k * 15) e.hdr.cells := rangeAt_part (n := 0) hrB rfl
          have HBB := Lib.hid (below_up HBA.out hbB.out)
          have HWB := Lib.hid (below_up HWA.out hbB.out)
          have HrB := Lib.hid hrB
          have hgB : gb < wB.heap.size := Nat.lt_of_lt_of_le hgA hbB.out.size
          have HD0 := Lib.hid D0
          clear D0 hrB hbB HRa HST HrA HBA HWA
          go_upto_region 24 with (first | (refine wpList_load_mid rfl 36 _ rfl gb (k * 15) rfl e.hdr.cells _ hrhB Tryz.underlying36 rfl sizeHdr ?_) | (refine wpList_store_blk rfl 36 _ _ rfl wB.heap.size _ _ 36 (Blk.new _ _ _) rfl rfl (by kernel_rfl) rfl rfl ?_; intro hst hfr; have HSU := Lib.hid (And.intro hst hfr); clear hst hfr; revert HSU; generalize (World.setCells _ _ _ _) = wC; intro HSU))
          have hbC : Below wB.heap.size wB wC := ((Below.refl wB.heap.size wB).alloc (Nat.le_refl _) (.cells _ _)).trans (HSU.out.2.below (by simp) (fun i hi e => by subst e; omega))
          have D1 := below_blk hbC HD0.out
          have hrC := rangeAt_below hbC HrB.out hgB
          have c14 : wC.cell? ⟨gb, k * 15 + 14, none⟩ = some (.string (B e.data)) := hrC 14 _ rfl
          have d0 : wC.cell? ⟨wr.heap.size, 0, none⟩ = some (.string (B e.hdr.name)) := D1.cell 0
          have e0 : wC.cell? ⟨wB.heap.size, 0, none⟩ = some (.string (B e.hdr.name)) := HSU.out.1.cell 0
          have d1 : wC.cell? ⟨wr.heap.size, 1, none⟩ = some (.string (B e.hdr.comment)) := D1.cell 1
          have e1 : wC.cell? ⟨wB.heap.size, 1, none⟩ = some (.string (B e.hdr.comment)) := HSU.out.1.cell 1
          have d7 : wC.cell? ⟨wr.heap.size, 7, none⟩ = some (.int .i64 e.hdr.method) := D1.cell 7
          have e7 : wC.cell? ⟨wB.heap.size, 7, none⟩ = some (.int .i64 e.hdr.method) := HSU.out.1.cell 7
          have d10 : wC.cell? ⟨wr.heap.size, 10, none⟩ = some (.int .i64 e.hdr.crc) := D1.cell 10
          have e10 : wC.cell? ⟨wB.heap.size, 10, none⟩ = some (.int .i64 e.hdr.crc) := HSU.out.1.cell 10
          have d11 : wC.cell? ⟨wr.heap.size, 11, none⟩ = some (.int .i64 e.hdr.packed) := D1.cell 11
          have e11 : wC.cell? ⟨wB.heap.size, 11, none⟩ = some (.int .i64 e.hdr.packed) := HSU.out.1.cell 11
          have d12 : wC.cell? ⟨wr.heap.size, 12, none⟩ = some (.int .i64 e.hdr.size) := D1.cell 12
          have e12 : wC.cell? ⟨wB.heap.size, 12, none⟩ = some (.int .i64 e.hdr.size) := HSU.out.1.cell 12
          have FIN := Lib.hid (below_up HWB.out hbC)
          clear hbC D1 hrC hrhB HSU HD0 HrB HBB HWB
          go_wp2
          exact ⟨⟨k + 1, by go_num, by omega, FIN⟩, by simp [intOf]; omega⟩
        · obtain rfl : k = es.length := by omega
          have HB13 := Lib.hid (below_up HB8.out hWr.out)
          have HRE := Lib.hid (writes_any (E0 := E0) (N0 := N0) wr (HE.out.below HB13.out))
          go_wp2_with fail
          refine HRE.out.mono ?_
          rintro r w16 ⟨rfl, hb16⟩
          have FIN := Lib.hid (below_up HB13.out hb16)
          clear hb16 HRE
          go_wp2
          go_ret
          exact ⟨rfl, FIN.out⟩
end Go.Proofs.Zip
namespace Go.Proofs.YtidmhfhfcoljeaaGreatDoor
open Go Go.ChangeShapes Go.WideShapes Go.ChangeAt Go.RowKit Go.Proofs.Zip Go.Deep
namespace fnRawRead
abbrev fid : Nat := 8
set_option maxRecDepth 100000 in
/-- What the list gives: the variables, as the walks read them. -/
theorem env_of6 {W : World} (h : laidMet Tryz.prog Rows.fnRawReadRow.laid W) : ∃ E0, Env W W.heap.size E0 := by
  have hu : Lib.Utf8Tabs 12 13 W :=
    utf8Tabs_of_reads Tryz.lays260 u8x (Lib.laidMet.reads h (by rw [← first_eq]; repeat (first | exact List.Mem.head _ | apply List.Mem.tail))) (Lib.laidMet.reads h (by rw [← accept_eq]; exact List.Mem.head _))
  have h1 := h.tail
  have h2 := h1.tail
  have h3 := h2.tail
  have h4 := h3.tail
  have h5 := h4.tail
  have h6 := h5.tail
  have h7 := h6.tail
  have h8 := h7.tail
  have h9 := h8.tail
  have h10 := h9.tail
  obtain ⟨aE, sE, iE, cE, tE⟩ := sent_head h3 (g := 5) (by kernel_rfl) (by kernel_rfl)
  obtain ⟨aU, sU, iU, cU, tU⟩ := sent_head h4 (g := 4) (by kernel_rfl) (by kernel_rfl)
  obtain ⟨aF, sF, iF, cF, tF⟩ := sent_head h7 (g := 1) (by kernel_rfl) (by kernel_rfl)
  obtain ⟨aA, sA, iA, cA, tA⟩ := sent_head h8 (g := 2) (by kernel_rfl) (by kernel_rfl)
  obtain ⟨aC, sC, iC, cC, tC⟩ := sent_head h9 (g := 3) (by kernel_rfl) (by kernel_rfl)
  obtain ⟨aI, sI, iI, cI, tI⟩ := sent_head h10 (g := 0) (by kernel_rfl) (by kernel_rfl)
  have ne : ∀ {a b : Addr} {s t : ByteArray} {l m : List UInt8}, W.cell? a = some (.string s) → W.cell? b = some (.string t) → s.data.toList = l → t.data.toList = m → l.length ≠ m.length → a ≠ b := by
    rintro a b s t l m h1 h2 rfl rfl h3 rfl
    rw [h1] at h2
    simp at h2
    exact h3 (by rw [h2])
  refine ⟨{ fmt := aF, eof := aE, alg := aA, chk := aC, unx := aU, ins := aI }, iF, iE, iA, iC, iU, iI, hu, ?_, ?_, Nat.le_refl _, ?_⟩
  · exact Nat.lt_of_le_of_lt (Nat.le_refl _) (World.block_lt_of_cell? W ⟨12, 0, none⟩ (hu.1 0 (by decide)))
  · exact Nat.lt_of_le_of_lt (Nat.le_refl _) (World.block_lt_of_cell? W ⟨13, 2 * 0, none⟩ (hu.2 0 (by decide)).1)
  · exact ⟨ne cF cE tF tE (by decide), ne cF cA tF tA (by decide), ne cF cC tF tC (by decide), ne cF cU tF tU (by decide), ne cF cI tF tI (by decide), ne cE cA tE tA (by decide), ne cE cC tE tC (by decide), ne cE cU tE tU (by decide), ne cE cI tE tI (by decide), ne cA cC tA tC (by decide), ne cA cU tA tU (by decide), ne cC cU tC tU (by decide), ne cU cI tU tI (by decide)⟩
theorem varsOk6 : varsRowed Tryz.prog Rows.fnRawReadSpec.vars = true := by kernel_rfl
/-- The six named variables. -/
theorem six_of_vars {H : Type} {enc : TypeId × Value → H} {P : Program} {W : World} {sp : Nat → Bool} {n1 n2 n3 n4 n5 n6 : String} {gs : List (DataW H)} {ps : List MemPlace} (h : DataW.TrodVars enc P W sp [n1, n2, n3, n4, n5, n6] gs ps) : ∃ g1 g2 g3 g4 g5 g6, gs = [g1, g2, g3, g4, g5, g6] := by
  have step : ∀ {n : String} {ns : List String} {gs : List (DataW H)} {ps : List MemPlace}, DataW.TrodVars enc P W sp (n :: ns) gs ps → ∃ g gs' ps', gs = g :: gs' ∧ DataW.TrodVars enc P W sp ns gs' ps' := by
    intro n ns gs ps h
    match gs, h with
    | [], h => exact h.elim
    | g :: gs', h => (obtain ⟨_, _, _, _, _, _, _, _, _, _, h, _⟩ := h; exact ⟨g, gs', _, rfl, h⟩)
  obtain ⟨g1, r1, _, rfl, k1⟩ := step h
  obtain ⟨g2, r2, _, rfl, k2⟩ := step k1
  obtain ⟨g3, r3, _, rfl, k3⟩ := step k2
  obtain ⟨g4, r4, _, rfl, k4⟩ := step k3
  obtain ⟨g5, r5, _, rfl, k5⟩ := step k4
  obtain ⟨g6, r6, _, rfl, k6⟩ := step k5
  match r6, k6 with
  | [], _ => exact ⟨g1, g2, g3, g4, g5, g6, rfl⟩
  | _ :: _, h => exact h.elim
set_option maxRecDepth 100000 in
/-- What the walk gives, for every input that can be read. -/
theorem contract (H : Type) (enc : TypeId × Value → H) (W : World) (base : Nat) (args : Array Value) (ds gs : List (DataW H)) (before : List MemPlace)
    (hval : ∀ (j : Nat) t v, Tryz.f8.params[j]? = some t → args[j]? = some v → Value.okWide Tryz.prog W .any base t v)
    (hW : DataW.Whole enc Tryz.prog Tryz.f8.params.toList Rows.fnRawReadSpec.vars false W args.toList ds gs before) (hL : laidMetH Tryz.prog Rows.fnRawReadRow.laid W) :
    Calls Tryz.prog 8 args W fun e W' => ∃ v, e = .returned v ∧ Rows.fnRawReadSpec.post enc Tryz.prog Tryz.f8 false true false false W args v W' := by
  have hW' := hW
  obtain ⟨p, q, hA0, hV, rfl, _, _⟩ := hW
  have hA : DataW.TrodAll enc Tryz.prog W 0 (fun _ => true) true Tryz.f8.params.toList args.toList ds p := hA0
  rw [Tryz.params8] at hA hval
  obtain ⟨v0, vs0, d0, ds0, p0, q0, hargs, rfl, rfl, h0, r0⟩ := trodAll_cons hA
  obtain ⟨v1, vs1, d1, ds1, p1, q1, rfl, rfl, rfl, h1, r1⟩ := trodAll_cons r0
  obtain ⟨rfl, rfl, rfl⟩ := trodAll_nil r1
  obtain rfl : args = #[v0, v1] := by cases args; simp_all
  obtain ⟨E0, hE⟩ : ∃ E0, Env W W.heap.size E0 := by
    rw [MakeChecks.laidMetH_plain _ _ _ (by kernel_rfl)] at hL
    exact env_of6 hL
  have hk0 := h0
  have hk1 := h1
  obtain ⟨es0, hes0, hel0⟩ := rd_list h0 (okWide_slice Tryz.underlying22 (hval 0 22 v0 rfl rfl))
  obtain ⟨c1, rfl, hc1⟩ : ∃ l : List UInt8, v1 = .string (B l) ∧ l.length ≤ 9223372036854775807 := rd_text h1 (hval 1 9 v1 rfl rfl)
  have hlt : ∀ x ∈ ((p0 ++ (p1 ++ []))) ++ q, x.block < W.heap.size := fun x hx => by simpa using hW'.lt x (by simpa using hx)
  refine (rawRead_any es0 c1 v0 W hE hes0 hel0 hc1 (Lib.hid (okWide_nil Tryz.underlying22 (hval 0 22 v0 rfl rfl)))).mono fun e W' ⟨he, hb⟩ => ?_
  subst he
  have hV' := Below.trodVars laidOut hb varsOk6 hV
  obtain ⟨g1, g2, g3, g4, g5, g6, rfl⟩ := six_of_vars hV
  refine ⟨_, rfl, _, _, _, [], p0 ++ (p1 ++ ([])), q, hW', trodAll_cons_mk (shut_bool Tryz.underlying4 true) trodAll_mk0, ?_, hV', hb.frame _, fun h => by cases h⟩
  exact trodAll_cons_mk (Below.trod laidOut (by kernel_rfl) (of_decide_eq_true (by kernel_rfl)) hk0 hb (fun x hx => hlt x (by simp [hx]))) (trodAll_cons_mk (Below.trod laidOut (by kernel_rfl) (of_decide_eq_true (by kernel_rfl)) hk1 hb (fun x hx => hlt x (by simp [hx]))) (trodAll_mk0))
set_option maxRecDepth 100000 in
theorem lifted (os : Os) (started : os.Started) (H : Type) (enc : TypeId × Value → H) :
    ReturnsInHanded {} Tryz.checked os 8 .any (fun w args => (Rows.fnRawReadSpec.pre enc Tryz.prog Tryz.f8 Rows.fnRawReadRow.domain false w args ∧ laidMetH Tryz.prog Rows.fnRawReadRow.laid w) ∧ sizedMet enc Tryz.prog Tryz.f8 (OpenSpec.ofChange Rows.fnRawReadSpec) false w args)
      (Rows.fnRawReadSpec.post enc Tryz.prog Tryz.f8 false true false false) := by
  refine returnsInHanded_of_change_and (C := Tryz.checked) (X := fun w _ => laidMetH Tryz.prog Rows.fnRawReadRow.laid w) (fun _ _ _ hh h => h.of_heap hh) own started (by kernel_rfl) Tryz.func8
    (ChangeSpec.witness_shaped (enc := enc) (C := Tryz.checked) (os := os) (X := fun w _ => laidMetH Tryz.prog Rows.fnRawReadRow.laid w) false (World.laidAll Tryz.prog os Rows.fnRawReadRow.laid) #[.slice none 0 0, .string ByteArray.empty] 8 (World.laidAll_os _ _ _)
      (World.shaped_of_ZipB (by kernel_rfl) (by kernel_rfl)) (by kernel_rfl) (by kernel_rfl) (by kernel_rfl)
      (by rw [MakeChecks.laidMetH_plain _ _ _ (by kernel_rfl)]; exact laidMet_laidAll _ (by kernel_rfl) (by kernel_rfl))) ?_
  intro W base args ds gs before hval hW _ _ hL _
  exact contract H enc W base args ds gs before hval hW hL
set_option maxRecDepth 100000 in
set_option maxHeartbeats 8000000 in
theorem closed : joinedFacts Tryz.pinned.checked.prog 8 Tryz.f8 Rows.fnRawReadSpec Rows.fnRawReadRow = true := by
  unfold joinedFacts
  rw [show Tryz.pinned.checked.prog = Tryz.prog from rfl, head_enter, head_final, head_make]
  repeat' (with_reducible refine Bool.and_eq_true_iff.2 ⟨?_, ?_⟩)
  all_goals as_aux_lemma => kernel_rfl
theorem wrapped : Tryz.f8.isWrapper Tryz.pinned.checked.prog Rows.fnRawReadRow.wrapper Rows.fnRawReadRow.mainSum := by unfold Func.isWrapper; first | (rw [if_pos (by decide +kernel)]; kernel_rfl) | (rw [if_neg (by decide +kernel)]; exact ⟨rfl, rfl⟩)
set_option maxRecDepth 100000 in
theorem said : Rows.FnRawReadSaid :=
  OpenClaim.holds_of_wide 8 Tryz.f8 rfl rfl rfl rfl rfl rfl rfl ⟨rfl, rfl, rfl, rfl, rfl⟩ rfl rfl rfl rfl rfl (by kernel_rfl) Tryz.func8 closed
    (of_decide_eq_true (by kernel_rfl)) wrapped
    (fun os started H enc _ => lifted os started H enc)
/-- No parameter wants a stand-in. -/
theorem plain (f : FuncId) (fn : Func) (hf : Tryz.pinned.checked.prog.funcNamed "loop.example/pub-ziparchives/laws.FnRawRead" = some f) (hfn : Tryz.pinned.checked.prog.funcs[f]? = some fn) :
    true = Tryz.pinned.checked.prog.looks [] ∧ ∀ (j : Nat) t, fn.params[j]? = some t → Tryz.pinned.checked.prog.wantsStandIn t = false := by
  obtain rfl : f = 8 := Option.some.inj ((show Tryz.prog.funcNamed "loop.example/pub-ziparchives/laws.FnRawRead" = some 8 by kernel_rfl).symm.trans hf) |>.symm
  obtain rfl : fn = Tryz.f8 := (Option.some.inj (Tryz.func8.symm.trans hfn)).symm
  refine ⟨by kernel_rfl, fun j t ht => ?_⟩
  rw [Tryz.params8] at ht
  have hm : t ∈ [22, 9] := by simpa using Array.mem_of_getElem? ht
  have hall : ([22, 9].all fun u => !Tryz.prog.wantsStandIn u) = true := by kernel_rfl
  exact (show Tryz.prog.wantsStandIn t = false by simpa using List.all_eq_true.1 hall t hm)
set_option maxRecDepth 100000 in
/-- THE CARD. -/
theorem card : Rows.FnRawReadCardSaid :=
  Claim7.holds_tied_plain_at .later [] _ _ _ _ said (fun _ h => by cases h) (by kernel_rfl) (fun _ h => by cases h) fnRawRead_row_tie rfl ⟨rfl, rfl⟩ head_main rfl plain (by kernel_rfl)
end fnRawRead
end Go.Proofs.YtidmhfhfcoljeaaGreatDoor
