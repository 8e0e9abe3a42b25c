/- What is proved: for every list of entries and every comment, FnCopyRead returns true and leaves its arguments as they read: a copy of an archive is read as the archive is, with the same bytes. Conditions: none beyond the row's own: the arguments can be read as data, and the package variables that the row lists hold what the program's text lays (the card ties that). -/
import Derived.Test.YtidmhfhfcoljeaaGreatDoorZWd
import Derived.Test.YtidmhfhfcoljeaaGreatDoorZR
namespace Go.Proofs.Zip
open Go Go.RowKit
theorem dir_data {es : List E} (h : directoriesB es = true) : ∀ e ∈ es, slash e.hdr.name = true → e.data = [] := by
  intro e he hs
  have := List.all_eq_true.1 h e he
  simp only [dirOk, Bool.not_eq_true', Bool.and_eq_false_iff] at this
  rw [slash_eq] at hs
  rcases this with h | h
  · rw [hs] at h; cases h
  · simp at h; exact h
set_option maxRecDepth 100000 in
set_option maxHeartbeats 20000000 in
theorem copyRead_any {N0 : Nat} {E0 : Errs} (es : List E) (c : List UInt8) (v : Value) (w : World) (hE : Env w N0 E0) (hv : IsList w v es) (hlen : es.length ≤ 9223372036854775807) (hc : c.length ≤ 9223372036854775807) (hnil : Hid (∀ n cap, v = .slice none n cap → cap = 0)) :
    Calls Tryz.prog 6 #[v, .string (B c)] w fun e w' => e = .returned (.bool true) ∧ Below w.heap.size w w' := by
  have HFT := Lib.hid (fits1_any es v w hv hlen)
  have HE := Lib.hid hE
  have HV := Lib.hid hv
  clear hE hv
  go_enter Tryz.func6, Tryz.ntmps6
  go_wp2_with fail
  refine HFT.out.mono ?_
  rintro e w1 ⟨rfl, hb1⟩
  have HB1 := Lib.hid hb1
  clear hb1 HFT
  cases hft : fits1 es
  · go_wp2
    go_ret
    exact ⟨rfl, HB1.out⟩
  obtain ⟨hl1, hl2⟩ := fits1_small hft
  have HL2 := Lib.hid hl2
  clear hft hl2
  by_cases hcl : c.length ≤ 2147483647
  rotate_left
  · have hcl' : (2147483647 : Int) < c.length := by omega
    go_wp2
    go_ret
    exact ⟨rfl, HB1.out⟩
  have hcl' : ¬ (2147483647 : Int) < c.length := by omega
  have HV1 := Lib.hid (HV.out.below HB1.out)
  have HVA : Hid (∀ o, IsList (w1.alloc o) v es) := Lib.hid fun o => HV1.out.below ((Below.refl w1.heap.size w1).alloc (Nat.le_refl _) o)
  go_wp2_with (at_builtin; refine wpList_app_list rfl _ _ rfl w1.heap.size (.slice (some ⟨w1.heap.size, 0, none⟩) 0 0) rfl ⟨rfl, .inr ⟨_, 0, _, rfl, Nat.le_refl _, heap_alloc_last _ _, Nat.le_refl _, by decide, rfl, rfl⟩⟩ (by simp) es v rfl (HVA.out _) hnil.out hl1 ?_)
  intro u w2 hown hfr
  obtain ⟨vx, vcap, hvf⟩ := own_form hown
  subst hvf
  have hb2 : Below w.heap.size w w2 := HB1.out.trans (((Below.refl w1.heap.size w1).alloc (Nat.le_refl _) (.cells #[] 38)).trans (hfr.below (by simp) (fun i hi e => by simp [Value.ownBlock] at e; omega)) |>.mono HB1.out.size)
  have HB2 := Lib.hid hb2
  have HOWN := Lib.hid hown
  have hz1 := HB1.out.size
  clear hown hfr hb2 HVA HV1 HV
  go_wp2_with fail
  go_loopw [29] (fun tj wr => ∃ j : Nat, tj = .int .i64 j ∧ j ≤ es.length ∧ Hid (∀ e ∈ es.take j, simpleB e.hdr = true) ∧ Hid (wr.ownsRow w1.heap.size 38 15 (.slice vx es.length vcap) es.length (rows (packL es j))) ∧ Hid (Below w.heap.size w wr)) (fun tj _ => es.length - (intOf tj).toNat)
  case atStart => exact ⟨0, rfl, Nat.zero_le _, Lib.hid (fun e he => by simp at he), Lib.hid (by rw [packL_zero]; exact HOWN.out), HB2⟩
  case round =>
    obtain ⟨j, rfl, hj, hSm, hO, hW⟩ := hrel
    by_cases hlt : j < es.length
    · have hpl := packL_length es j hj
      have hO2 := hO.out
      rw [← hpl] at hO2
      obtain ⟨g, cap, hue, hgb, hgl, hfz, hr, hset⟩ := ownRows_at hO2 (by omega : j < (packL es j).length)
      rw [packL_get es j hlt] at hr hset
      have hset2 := hset 11 (.int .i64 es[j].data.length) (packE es[j]) (by decide) rfl
      rw [← packL_succ es j hlt, packL_length es (j + 1) hlt, hpl] at hset2
      have hdl := HL2.out es[j] (List.getElem_mem hlt)
      have hn1 := packL_length es (j + 1) hlt
      have hr3 : (wr.setCell ⟨g, j * 15 + 11, none⟩ (.int .i64 es[j].data.length)).rangeAt g (j * 15) (packE es[j]).hdr.cells := by
        obtain ⟨g', cap', hue', _, _, _, hr', _⟩ := ownRows_at (es := packL es (j + 1)) (by rw [hn1]; exact hset2) (by omega : j < (packL es (j + 1)).length)
        have e1 : (packL es (j + 1))[j]'(by omega) = packE es[j] := by simp [packL_succ es j hlt]
        rw [e1] at hr'
        have e2 : vx = some ⟨g, 0, none⟩ := by
          simp only [Value.slice.injEq] at hue
          exact hue.1
        have e3 : vx = some ⟨g', 0, none⟩ := by
          simp only [Value.slice.injEq] at hue'
          exact hue'.1
        rw [e2] at e3
        simp only [Option.some.injEq, Addr.mk.injEq] at e3
        obtain ⟨rfl, _⟩ := e3
        exact rangeAt_part (n := 0) hr' rfl
      clear hn1
      have hsmt : Hid (simpleB es[j].hdr = true → ∀ e ∈ es.take (j + 1), simpleB e.hdr = true) := Lib.hid (fun h e he => by
        rw [List.take_succ_eq_append_getElem hlt] at he
        rcases List.mem_append.1 he with he | he
        · exact hSm.out e he
        · cases List.mem_singleton.1 he; exact h)
      generalize es[j] = e at hr hset2 hdl hsmt hr3
      simp only [Value.slice.injEq] at hue
      obtain ⟨rfl, _, rfl⟩ := hue
      have c14 : wr.cell? ⟨g, j * 15 + 14, none⟩ = some (.string (B e.data)) := hr 14 _ rfl
      have c11 : wr.cell? ⟨g, j * 15 + 11, none⟩ = some (.int .i64 e.hdr.packed) := hr 11 _ rfl
      have f11 : wr.frozen? ⟨g, j * 15 + 11, none⟩ = false := hfz _
      have HSET := Lib.hid hset2
      have HGB := Lib.hid hgb
      have HW2 : Hid (Below w.heap.size w (wr.setCell ⟨g, j * 15 + 11, none⟩ (.int .i64 e.data.length))) := Lib.hid (hW.out.setCell (by show w.heap.size ≤ g; omega) _)
      have HS := Lib.hid (simple_any (packE e).hdr (wr.setCell ⟨g, j * 15 + 11, none⟩ (.int .i64 e.data.length)))
      have hse : simpleB (packE e).hdr = simpleB e.hdr := rfl
      rw [hse] at HS
      clear hset hset2 hr hfz hgb hO2 hpl hO hgl hse
      go_wp2_with (first | (refine wpList_load_mid rfl 36 _ rfl g (j * 15) rfl (packE e).hdr.cells _ hr3 Tryz.underlying36 rfl sizeHdr ?_))
      refine HS.out.mono ?_
      rintro r w3 ⟨rfl, hb3⟩
      have HB3 := Lib.hid (below_up HW2.out hb3)
      have HO3 := Lib.hid (ownsRow_below HSET.out hb3)
      clear hb3 HS
      cases hsm : simpleB e.hdr
      · go_wp2
        go_ret
        exact ⟨rfl, HB3.out⟩
      · have HSM := Lib.hid (hsmt.out hsm)
        clear hsm hsmt
        go_wp2
        exact ⟨⟨j + 1, by go_num, by omega, HSM, HO3, HB3⟩, by simp [intOf]; omega⟩
    · obtain rfl : j = es.length := by omega
      obtain ⟨es', hes'⟩ : ∃ l, l = es.map packE := ⟨_, rfl⟩
      have hlen' : es'.length = es.length := by rw [hes']; simp
      have hO2 := hO.out
      rw [packL_all, ← hes', ← hlen'] at hO2
      have HLI := Lib.hid (isList_own hO2)
      rw [hlen'] at HLI
      have HPK : Hid ((∀ e ∈ es', e.hdr.packed = (e.data.length : Int)) ∧ ∀ e ∈ es', simpleB e.hdr = true) := Lib.hid (by
        have h1 := hSm.out
        rw [List.take_of_length_le (Nat.le_refl _)] at h1
        refine ⟨fun e he => ?_, fun e he => ?_⟩
        · rw [hes'] at he
          obtain ⟨x, _, rfl⟩ := List.mem_map.1 he
          rfl
        · rw [hes'] at he
          obtain ⟨x, hx, rfl⟩ := List.mem_map.1 he
          exact h1 x hx)
      have HLE := Lib.hid hlen'
      clear hO2 hO hes' HOWN HB2 hlen' hSm
      have HG := Lib.hid (good_any es' c _ wr HLI.out (by have := HLE.out; omega) (by omega))
      go_wp2_with fail
      refine HG.out.mono ?_
      rintro r w4 ⟨rfl, hb4⟩
      have HLI4 := Lib.hid (HLI.out.below hb4)
      have HB4 := Lib.hid (below_up hW.out hb4)
      clear hb4 HG HLI
      cases hgood : goodB es' c
      · go_wp2
        go_ret
        exact ⟨rfl, HB4.out⟩
      have HGOOD := Lib.hid hgood
      clear hgood
      have HDR := Lib.hid (directories_any es' _ w4 HLI4.out (by have := HLE.out; omega) (fun e he => by
        have hok : entryOk e = true := List.all_eq_true.1 (good_parts HGOOD.out).1 _ he
        simp only [entryOk, Bool.and_eq_true, decide_eq_true_eq] at hok
        have := (HOk.of hok.1).name
        omega))
      go_wp2_with fail
      refine HDR.out.mono ?_
      rintro r w5 ⟨rfl, hb5⟩
      have HB5 := Lib.hid (below_up HB4.out hb5)
      have HLI5 := Lib.hid (HLI4.out.below hb5)
      clear hb5 HDR HLI4
      cases hdir : directoriesB es'
      · go_wp2
        go_ret
        exact ⟨rfl, HB5.out⟩
      have HDI := Lib.hid (dir_data hdir)
      clear hdir
      have HAR := Lib.hid (archive_good HGOOD.out _ w5 HLI5.out)
      go_wp2_with fail
      refine HAR.out.mono ?_
      rintro r w6 ⟨rfl, hb6⟩
      have HB6 := Lib.hid (below_up HB5.out hb6)
      clear hb6 HAR HLI5
      have E6 := HE.out.below HB6.out
      have HCP := Lib.hid (copy_any (c := c) w6 E6 HGOOD.out HPK.out.1 (fun e he => by
        have hok : entryOk e = true := List.all_eq_true.1 (good_parts HGOOD.out).1 _ he
        simp only [entryOk, Bool.and_eq_true, decide_eq_true_eq] at hok
        exact simple_bit (HOk.of hok.1).flags (HPK.out.2 e he)) HDI.out)
      clear E6
      go_wp2_with fail
      refine HCP.out.mono ?_
      rintro r w7 ⟨rfl, hb7⟩
      have HB7 := Lib.hid (below_up HB6.out hb7.out)
      have hL := good_lay HGOOD.out
      have hlD : (archiveL es' c).length ≤ 4611686018427387904 := by
        obtain ⟨b, k, hA, _⟩ := arc_good HGOOD.out hL (.inl rfl)
        have := hA.len
        omega
      have hends := (good_parts HGOOD.out).2.2.2
      have HEN := Lib.hid (ends_any (archiveL es' c) w7 hlD)
      rw [hends] at HEN
      clear hb7 HCP hL hlD hends
      go_wp2_with fail
      refine HEN.out.mono ?_
      rintro r w8 ⟨rfl, rfl⟩
      clear HEN
      have HR1 := Lib.hid (readHs_good w7 (HE.out.below HB7.out) HGOOD.out)
      go_wp2_with fail
      refine HR1.out.mono ?_
      rintro r w9 ⟨va, rfl, hOa, hba⟩
      have HB9 := Lib.hid (below_up HB7.out hba.out)
      clear HR1 hba
      have HR2 := Lib.hid (readHs_good w9 (HE.out.below HB9.out) HGOOD.out)
      go_wp2_with fail
      refine HR2.out.mono ?_
      rintro r w10 ⟨vb, rfl, hOb, hbb⟩
      have HB10 := Lib.hid (below_up HB9.out hbb.out)
      have hOa2 := ownsRow_below hOa.out hbb.out
      obtain ⟨xa, ca, rfl⟩ := own_form hOa.out
      obtain ⟨xb, cb, rfl⟩ := own_form hOb.out
      have hln : ((hsOf es' 0).map toldOf).length = es'.length := by rw [List.length_map, hsOf_length]
      obtain ⟨l, hl⟩ : ∃ l, l = (hsOf es' 0).map toldOf := ⟨_, rfl⟩
      rw [← hl] at hOa2 hOb hln
      have hlnl : ((hsOf es' 0).map toldOf).length = l.length := by rw [hl]
      rw [← hl]
      have HOA := Lib.hid hOa2
      have HOB := Lib.hid hOb.out
      have HLN := Lib.hid hln
      have BA : Blk ((w10.alloc (.cells #[.bool false, .string ⟨#[]⟩, .slice none 0 0] 28)).alloc (.cells #[.bool false, .string ⟨#[]⟩, .slice none 0 0] 28)) w10.heap.size #[.bool false, .string ⟨#[]⟩, .slice none 0 0] 28 := (Blk.new _ _ _).alloc _
      have BB : Blk ((w10.alloc (.cells #[.bool false, .string ⟨#[]⟩, .slice none 0 0] 28)).alloc (.cells #[.bool false, .string ⟨#[]⟩, .slice none 0 0] 28)) (w10.heap.size + 1) #[.bool false, .string ⟨#[]⟩, .slice none 0 0] 28 := Blk.new' _ _ (by simp)
      have FAB : Fr (fun b => b = w10.heap.size ∨ b = w10.heap.size + 1) w10 ((w10.alloc (.cells #[.bool false, .string ⟨#[]⟩, .slice none 0 0] 28)).alloc (.cells #[.bool false, .string ⟨#[]⟩, .slice none 0 0] 28)) := ((Fr.refl _ w10).alloc _).alloc _
      have HA1 := Lib.hid BA
      have HA2 := Lib.hid (And.intro BB FAB)
      clear hOa hOb hOa2 hbb HR2 hl hlnl hln BA BB FAB
      go_upto_region 18 with (refine wpList_store_blk rfl 28 _ _ rfl w10.heap.size _ _ 28 HA1.out rfl rfl (by kernel_rfl) rfl rfl ?_; intro hst hfr; refine wpList_store_blk rfl 28 _ _ rfl (w10.heap.size + 1) _ _ 28 (hfr.blk HA2.out.1 (by omega)) rfl rfl (by kernel_rfl) rfl rfl ?_; intro hst2 hfr2; have HST := Lib.hid (And.intro (hfr2.blk hst (by omega)) (And.intro hst2 ((HA2.out.2.trans2 hfr (fun _ h => h) (fun _ h => .inl h)).trans2 hfr2 (fun _ h => h) (fun _ h => .inr h)))); clear hst hfr hst2 hfr2; revert HST; generalize (World.setCells _ _ _ _) = w12; intro HST)
      have HB12 : Hid (Below w.heap.size w w12) := Lib.hid (HB10.out.trans (HST.out.2.2.below HB10.out.size (fun i hi e => by have := HB10.out.size; omega)))
      have HOA2 := Lib.hid (ownsRow_fr HOA.out HST.out.2.2 (fun b hb e => by have := HOA.out.lt _ e.symm; omega))
      have HOB2 := Lib.hid (ownsRow_fr HOB.out HST.out.2.2 (fun b hb e => by have := HOB.out.lt _ e.symm; omega))
      have AB := Lib.hid (And.intro HST.out.1 HST.out.2.1)
      have a1 : w12.cell? ⟨w10.heap.size, 1, none⟩ = some (.string (B c)) := AB.out.1.cell 1
      have a2 : w12.cell? ⟨w10.heap.size, 2, none⟩ = some (.slice xa l.length ca) := AB.out.1.cell 2
      have b0 : w12.cell? ⟨w10.heap.size + 1, 0, none⟩ = some (.bool true) := AB.out.2.cell 0
      have b1 : w12.cell? ⟨w10.heap.size + 1, 1, none⟩ = some (.string (B c)) := AB.out.2.cell 1
      have b2 : w12.cell? ⟨w10.heap.size + 1, 2, none⟩ = some (.slice xb l.length cb) := AB.out.2.cell 2
      clear HST HA1 HA2 HOA HOB
      obtain ⟨A, hA⟩ : ∃ A, A = w10.heap.size := ⟨_, rfl⟩
      rw [← hA] at AB a1 a2 b0 b1 b2 ⊢
      clear hA
      go_wp2_with fail
      clear a1 a2 b0 b1 b2
      go_loopw [102] (fun tk wr => ∃ k : Nat, tk = .int .i64 k ∧ k ≤ l.length ∧ Hid (Below w12.heap.size w12 wr)) (fun tk _ => l.length - (intOf tk).toNat)
      case atStart => exact ⟨0, rfl, Nat.zero_le _, Lib.hid (Below.refl _ _)⟩
      case round =>
        obtain ⟨k, rfl, hk, hWr⟩ := hrel
        by_cases hlt : k < l.length
        · have hk2 : k < es'.length := by have := HLN.out; omega
          have hpk := HPK.out.1 _ (List.getElem_mem hk2)
          have HB13 := Lib.hid (below_up HB12.out hWr.out)
          have HR3 := Lib.hid (raw_good (N0 := N0) (E0 := E0) (w := wr) (HE.out.below HB13.out) HGOOD.out hk2 hpk)
          go_wp2_with fail
          refine HR3.out.mono ?_
          rintro r w14 ⟨rfl, hb14⟩
          have HB14 := Lib.hid (below_up HB13.out hb14.out)
          have HW14 := Lib.hid (below_up hWr.out hb14.out)
          have HR4 := Lib.hid (raw_good (N0 := N0) (E0 := E0) (w := w14) (HE.out.below HB14.out) HGOOD.out hk2 hpk)
          clear HR3 hb14
          go_wp2_with fail
          refine HR4.out.mono ?_
          rintro r w15 ⟨rfl, hb15⟩
          have HB15 := Lib.hid (below_up HB14.out hb15.out)
          have HW15 := Lib.hid (below_up HW14.out hb15.out)
          clear HR4 hb15 hpk
          generalize es'[k].data = dk
          clear hk2
          obtain ⟨ga, ca', hae, hca, hga, hra⟩ := hdrAt HOA2.out hlt
          obtain ⟨gb, cb', hbe, hcb, hgb, hrb⟩ := hdrAt HOB2.out hlt
          cases hae
          cases hbe
          have hra2 := rangeAt_below HW15.out hra hga
          have hrb2 := rangeAt_below HW15.out hrb hgb
          generalize l[k] = hk0 at hra2 hrb2
          have a2 : w15.cell? ⟨A, 2, none⟩ = some (.slice (some ⟨ga, 0, none⟩) l.length ca) := (below_blk HW15.out AB.out.1).cell 2
          have b2 : w15.cell? ⟨A + 1, 2, none⟩ = some (.slice (some ⟨gb, 0, none⟩) l.length cb) := (below_blk HW15.out AB.out.2).cell 2
          have d0 : w15.cell? ⟨ga, k * 14 + 0, none⟩ = some (.string (B hk0.name)) := hra2 0 _ rfl
          have d1 : w15.cell? ⟨ga, k * 14 + 1, none⟩ = some (.string (B hk0.comment)) := hra2 1 _ rfl
          have d7 : w15.cell? ⟨ga, k * 14 + 7, none⟩ = some (.int .i64 hk0.method) := hra2 7 _ rfl
          have d10 : w15.cell? ⟨ga, k * 14 + 10, none⟩ = some (.int .i64 hk0.crc) := hra2 10 _ rfl
          have d12 : w15.cell? ⟨ga, k * 14 + 12, none⟩ = some (.int .i64 hk0.size) := hra2 12 _ rfl
          have e0 : w15.cell? ⟨gb, k * 14 + 0, none⟩ = some (.string (B hk0.name)) := hrb2 0 _ rfl
          have e1 : w15.cell? ⟨gb, k * 14 + 1, none⟩ = some (.string (B hk0.comment)) := hrb2 1 _ rfl
          have e7 : w15.cell? ⟨gb, k * 14 + 7, none⟩ = some (.int .i64 hk0.method) := hrb2 7 _ rfl
          have e10 : w15.cell? ⟨gb, k * 14 + 10, none⟩ = some (.int .i64 hk0.crc) := hrb2 10 _ rfl
          have e12 : w15.cell? ⟨gb, k * 14 + 12, none⟩ = some (.int .i64 hk0.size) := hrb2 12 _ rfl
          simp only [Nat.add_zero] at d0 e0
          have hln2 : l.length ≤ 1000 := by have h1 := HLN.out; have h2 := (good_parts HGOOD.out).2.1; omega
          clear hra hrb hra2 hrb2
          go_upto_region 25 with fail
          simp only [List.append_eq, List.cons_append, List.nil_append]
          go_quiet (fail)
          have FIN : Hid (Below w12.heap.size w12 (w15.drewN nq)) := Lib.hid (((Fr.of_below (S := fun _ => False) HW15.out).drewN nq).below (Nat.le_refl _) (fun _ _ h => h))
          clear a2 b2 d0 d1 d7 d10 d12 e0 e1 e7 e10 e12
          go_wp2
          exact ⟨⟨k + 1, by go_num, by omega, FIN⟩, by simp [intOf]; omega⟩
        · obtain rfl : k = l.length := by omega
          have HB13 := Lib.hid (below_up HB12.out hWr.out)
          have HRE := Lib.hid (reads_any (E0 := E0) (N0 := N0) wr (HE.out.below HB13.out))
          go_wp2_with fail
          refine HRE.out.mono ?_
          rintro r w16 ⟨rfl, hb16⟩
          have FIN := Lib.hid (below_up HB13.out hb16)
          clear hb16 HRE
          go_wp2
          go_ret
          exact ⟨rfl, FIN.out⟩
end Go.Proofs.Zip
namespace Go.Proofs.YtidmhfhfcoljeaaGreatDoor
open Go Go.ChangeShapes Go.WideShapes Go.ChangeAt Go.RowKit Go.Proofs.Zip Go.Deep
namespace fnCopyRead
abbrev fid : Nat := 6
set_option maxRecDepth 100000 in
/-- What the list gives: the variables, as the walks read them. -/
theorem env_of6 {W : World} (h : laidMet Tryz.prog Rows.fnCopyReadRow.laid W) : ∃ E0, Env W W.heap.size E0 := by
  have hu : Lib.Utf8Tabs 12 13 W :=
    utf8Tabs_of_reads Tryz.lays260 u8x (Lib.laidMet.reads h (by rw [← first_eq]; repeat (first | exact List.Mem.head _ | apply List.Mem.tail))) (Lib.laidMet.reads h (by rw [← accept_eq]; exact List.Mem.head _))
  have h1 := h.tail
  have h2 := h1.tail
  have h3 := h2.tail
  have h4 := h3.tail
  have h5 := h4.tail
  have h6 := h5.tail
  have h7 := h6.tail
  have h8 := h7.tail
  have h9 := h8.tail
  have h10 := h9.tail
  have h11 := h10.tail
  obtain ⟨aE, sE, iE, cE, tE⟩ := sent_head h4 (g := 5) (by kernel_rfl) (by kernel_rfl)
  obtain ⟨aU, sU, iU, cU, tU⟩ := sent_head h5 (g := 4) (by kernel_rfl) (by kernel_rfl)
  obtain ⟨aF, sF, iF, cF, tF⟩ := sent_head h8 (g := 1) (by kernel_rfl) (by kernel_rfl)
  obtain ⟨aA, sA, iA, cA, tA⟩ := sent_head h9 (g := 2) (by kernel_rfl) (by kernel_rfl)
  obtain ⟨aC, sC, iC, cC, tC⟩ := sent_head h10 (g := 3) (by kernel_rfl) (by kernel_rfl)
  obtain ⟨aI, sI, iI, cI, tI⟩ := sent_head h11 (g := 0) (by kernel_rfl) (by kernel_rfl)
  have ne : ∀ {a b : Addr} {s t : ByteArray} {l m : List UInt8}, W.cell? a = some (.string s) → W.cell? b = some (.string t) → s.data.toList = l → t.data.toList = m → l.length ≠ m.length → a ≠ b := by
    rintro a b s t l m h1 h2 rfl rfl h3 rfl
    rw [h1] at h2
    simp at h2
    exact h3 (by rw [h2])
  refine ⟨{ fmt := aF, eof := aE, alg := aA, chk := aC, unx := aU, ins := aI }, iF, iE, iA, iC, iU, iI, hu, ?_, ?_, Nat.le_refl _, ?_⟩
  · exact Nat.lt_of_le_of_lt (Nat.le_refl _) (World.block_lt_of_cell? W ⟨12, 0, none⟩ (hu.1 0 (by decide)))
  · exact Nat.lt_of_le_of_lt (Nat.le_refl _) (World.block_lt_of_cell? W ⟨13, 2 * 0, none⟩ (hu.2 0 (by decide)).1)
  · exact ⟨ne cF cE tF tE (by decide), ne cF cA tF tA (by decide), ne cF cC tF tC (by decide), ne cF cU tF tU (by decide), ne cF cI tF tI (by decide), ne cE cA tE tA (by decide), ne cE cC tE tC (by decide), ne cE cU tE tU (by decide), ne cE cI tE tI (by decide), ne cA cC tA tC (by decide), ne cA cU tA tU (by decide), ne cC cU tC tU (by decide), ne cU cI tU tI (by decide)⟩
theorem varsOk6 : varsRowed Tryz.prog Rows.fnCopyReadSpec.vars = true := by kernel_rfl
/-- The six named variables. -/
theorem six_of_vars {H : Type} {enc : TypeId × Value → H} {P : Program} {W : World} {sp : Nat → Bool} {n1 n2 n3 n4 n5 n6 : String} {gs : List (DataW H)} {ps : List MemPlace} (h : DataW.TrodVars enc P W sp [n1, n2, n3, n4, n5, n6] gs ps) : ∃ g1 g2 g3 g4 g5 g6, gs = [g1, g2, g3, g4, g5, g6] := by
  have step : ∀ {n : String} {ns : List String} {gs : List (DataW H)} {ps : List MemPlace}, DataW.TrodVars enc P W sp (n :: ns) gs ps → ∃ g gs' ps', gs = g :: gs' ∧ DataW.TrodVars enc P W sp ns gs' ps' := by
    intro n ns gs ps h
    match gs, h with
    | [], h => exact h.elim
    | g :: gs', h => (obtain ⟨_, _, _, _, _, _, _, _, _, _, h, _⟩ := h; exact ⟨g, gs', _, rfl, h⟩)
  obtain ⟨g1, r1, _, rfl, k1⟩ := step h
  obtain ⟨g2, r2, _, rfl, k2⟩ := step k1
  obtain ⟨g3, r3, _, rfl, k3⟩ := step k2
  obtain ⟨g4, r4, _, rfl, k4⟩ := step k3
  obtain ⟨g5, r5, _, rfl, k5⟩ := step k4
  obtain ⟨g6, r6, _, rfl, k6⟩ := step k5
  match r6, k6 with
  | [], _ => exact ⟨g1, g2, g3, g4, g5, g6, rfl⟩
  | _ :: _, h => exact h.elim
set_option maxRecDepth 100000 in
/-- What the walk gives, for every input that can be read. -/
theorem contract (H : Type) (enc : TypeId × Value → H) (W : World) (base : Nat) (args : Array Value) (ds gs : List (DataW H)) (before : List MemPlace)
    (hval : ∀ (j : Nat) t v, Tryz.f6.params[j]? = some t → args[j]? = some v → Value.okWide Tryz.prog W .any base t v)
    (hW : DataW.Whole enc Tryz.prog Tryz.f6.params.toList Rows.fnCopyReadSpec.vars false W args.toList ds gs before) (hL : laidMetH Tryz.prog Rows.fnCopyReadRow.laid W) :
    Calls Tryz.prog 6 args W fun e W' => ∃ v, e = .returned v ∧ Rows.fnCopyReadSpec.post enc Tryz.prog Tryz.f6 false true false false W args v W' := by
  have hW' := hW
  obtain ⟨p, q, hA0, hV, rfl, _, _⟩ := hW
  have hA : DataW.TrodAll enc Tryz.prog W 0 (fun _ => true) true Tryz.f6.params.toList args.toList ds p := hA0
  rw [Tryz.params6] at hA hval
  obtain ⟨v0, vs0, d0, ds0, p0, q0, hargs, rfl, rfl, h0, r0⟩ := trodAll_cons hA
  obtain ⟨v1, vs1, d1, ds1, p1, q1, rfl, rfl, rfl, h1, r1⟩ := trodAll_cons r0
  obtain ⟨rfl, rfl, rfl⟩ := trodAll_nil r1
  obtain rfl : args = #[v0, v1] := by cases args; simp_all
  obtain ⟨E0, hE⟩ : ∃ E0, Env W W.heap.size E0 := by
    rw [MakeChecks.laidMetH_plain _ _ _ (by kernel_rfl)] at hL
    exact env_of6 hL
  have hk0 := h0
  have hk1 := h1
  obtain ⟨es0, hes0, hel0⟩ := rd_list h0 (okWide_slice Tryz.underlying22 (hval 0 22 v0 rfl rfl))
  obtain ⟨c1, rfl, hc1⟩ : ∃ l : List UInt8, v1 = .string (B l) ∧ l.length ≤ 9223372036854775807 := rd_text h1 (hval 1 9 v1 rfl rfl)
  have hlt : ∀ x ∈ ((p0 ++ (p1 ++ []))) ++ q, x.block < W.heap.size := fun x hx => by simpa using hW'.lt x (by simpa using hx)
  refine (copyRead_any es0 c1 v0 W hE hes0 hel0 hc1 (Lib.hid (okWide_nil Tryz.underlying22 (hval 0 22 v0 rfl rfl)))).mono fun e W' ⟨he, hb⟩ => ?_
  subst he
  have hV' := Below.trodVars laidOut hb varsOk6 hV
  obtain ⟨g1, g2, g3, g4, g5, g6, rfl⟩ := six_of_vars hV
  refine ⟨_, rfl, _, _, _, [], p0 ++ (p1 ++ ([])), q, hW', trodAll_cons_mk (shut_bool Tryz.underlying4 true) trodAll_mk0, ?_, hV', hb.frame _, fun h => by cases h⟩
  exact trodAll_cons_mk (Below.trod laidOut (by kernel_rfl) (of_decide_eq_true (by kernel_rfl)) hk0 hb (fun x hx => hlt x (by simp [hx]))) (trodAll_cons_mk (Below.trod laidOut (by kernel_rfl) (of_decide_eq_true (by kernel_rfl)) hk1 hb (fun x hx => hlt x (by simp [hx]))) (trodAll_mk0))
set_option maxRecDepth 100000 in
theorem lifted (os : Os) (started : os.Started) (H : Type) (enc : TypeId × Value → H) :
    ReturnsInHanded {} Tryz.checked os 6 .any (fun w args => (Rows.fnCopyReadSpec.pre enc Tryz.prog Tryz.f6 Rows.fnCopyReadRow.domain false w args ∧ laidMetH Tryz.prog Rows.fnCopyReadRow.laid w) ∧ sizedMet enc Tryz.prog Tryz.f6 (OpenSpec.ofChange Rows.fnCopyReadSpec) false w args)
      (Rows.fnCopyReadSpec.post enc Tryz.prog Tryz.f6 false true false false) := by
  refine returnsInHanded_of_change_and (C := Tryz.checked) (X := fun w _ => laidMetH Tryz.prog Rows.fnCopyReadRow.laid w) (fun _ _ _ hh h => h.of_heap hh) own started (by kernel_rfl) Tryz.func6
    (ChangeSpec.witness_shaped (enc := enc) (C := Tryz.checked) (os := os) (X := fun w _ => laidMetH Tryz.prog Rows.fnCopyReadRow.laid w) false (World.laidAll Tryz.prog os Rows.fnCopyReadRow.laid) #[.slice none 0 0, .string ByteArray.empty] 8 (World.laidAll_os _ _ _)
      (World.shaped_of_ZipB (by kernel_rfl) (by kernel_rfl)) (by kernel_rfl) (by kernel_rfl) (by kernel_rfl)
      (by rw [MakeChecks.laidMetH_plain _ _ _ (by kernel_rfl)]; exact laidMet_laidAll _ (by kernel_rfl) (by kernel_rfl))) ?_
  intro W base args ds gs before hval hW _ _ hL _
  exact contract H enc W base args ds gs before hval hW hL
set_option maxRecDepth 100000 in
set_option maxHeartbeats 8000000 in
theorem closed : joinedFacts Tryz.pinned.checked.prog 6 Tryz.f6 Rows.fnCopyReadSpec Rows.fnCopyReadRow = true := by
  unfold joinedFacts
  rw [show Tryz.pinned.checked.prog = Tryz.prog from rfl, head_enter, head_final, head_make]
  repeat' (with_reducible refine Bool.and_eq_true_iff.2 ⟨?_, ?_⟩)
  all_goals as_aux_lemma => kernel_rfl
theorem wrapped : Tryz.f6.isWrapper Tryz.pinned.checked.prog Rows.fnCopyReadRow.wrapper Rows.fnCopyReadRow.mainSum := by unfold Func.isWrapper; first | (rw [if_pos (by decide +kernel)]; kernel_rfl) | (rw [if_neg (by decide +kernel)]; exact ⟨rfl, rfl⟩)
set_option maxRecDepth 100000 in
theorem said : Rows.FnCopyReadSaid :=
  OpenClaim.holds_of_wide 6 Tryz.f6 rfl rfl rfl rfl rfl rfl rfl ⟨rfl, rfl, rfl, rfl, rfl⟩ rfl rfl rfl rfl rfl (by kernel_rfl) Tryz.func6 closed
    (of_decide_eq_true (by kernel_rfl)) wrapped
    (fun os started H enc _ => lifted os started H enc)
/-- No parameter wants a stand-in. -/
theorem plain (f : FuncId) (fn : Func) (hf : Tryz.pinned.checked.prog.funcNamed "loop.example/pub-ziparchives/laws.FnCopyRead" = some f) (hfn : Tryz.pinned.checked.prog.funcs[f]? = some fn) :
    true = Tryz.pinned.checked.prog.looks [] ∧ ∀ (j : Nat) t, fn.params[j]? = some t → Tryz.pinned.checked.prog.wantsStandIn t = false := by
  obtain rfl : f = 6 := Option.some.inj ((show Tryz.prog.funcNamed "loop.example/pub-ziparchives/laws.FnCopyRead" = some 6 by kernel_rfl).symm.trans hf) |>.symm
  obtain rfl : fn = Tryz.f6 := (Option.some.inj (Tryz.func6.symm.trans hfn)).symm
  refine ⟨by kernel_rfl, fun j t ht => ?_⟩
  rw [Tryz.params6] at ht
  have hm : t ∈ [22, 9] := by simpa using Array.mem_of_getElem? ht
  have hall : ([22, 9].all fun u => !Tryz.prog.wantsStandIn u) = true := by kernel_rfl
  exact (show Tryz.prog.wantsStandIn t = false by simpa using List.all_eq_true.1 hall t hm)
set_option maxRecDepth 100000 in
/-- THE CARD. -/
theorem card : Rows.FnCopyReadCardSaid :=
  Claim7.holds_tied_plain_at .later [] _ _ _ _ said (fun _ h => by cases h) (by kernel_rfl) (fun _ h => by cases h) fnCopyRead_row_tie rfl ⟨rfl, rfl⟩ head_main rfl plain (by kernel_rfl)
end fnCopyRead
end Go.Proofs.YtidmhfhfcoljeaaGreatDoor
