/- What is proved: for every list of entries, every comment, every index and every number, FnContentChecksum returns true and leaves its arguments as they read: a checksum that is not 0 and not that of the content is told. Conditions: none beyond the row's own: the arguments can be read as data, and the package variables that the row lists hold what the program's text lays (the card ties that). -/
import Derived.Test.YtiipmnaonidojaaGreatDoorZS
import Derived.Test.YtiipmnaonidojaaGreatDoorZR
namespace Go.Proofs.Zip
open Go Go.RowKit
set_option maxRecDepth 100000 in
set_option maxHeartbeats 8000000 in
theorem contentChecksum_any {N0 : Nat} {E0 : Errs} (es : List E) (c : List UInt8) (k : Int) (m : Int) (v : Value) (w : World) (hE : Env w N0 E0) (hv : IsList w v es) (hlen : es.length ≤ 9223372036854775807) (hc : c.length ≤ 9223372036854775807) :
    Calls Tryz.prog 3 #[v, .string (B c), .int .i64 k, .int .i64 m] w fun e w' => e = .returned (.bool true) ∧ Below w.heap.size w w' := by
  have HFT := Lib.hid (fits1_any es v w hv hlen)
  have HE := Lib.hid hE
  have HV := Lib.hid hv
  clear hE hv
  go_enter Tryz.func3, Tryz.ntmps3
  go_wp2_with fail
  refine HFT.out.mono ?_
  rintro e w1 ⟨rfl, hb1⟩
  have HB1 := Lib.hid hb1
  clear hb1 HFT
  cases hft : fits1 es
  · go_wp2
    go_ret
    exact ⟨rfl, HB1.out⟩
  obtain ⟨hl1, hl2⟩ := fits1_small hft
  have HL2 := Lib.hid hl2
  clear hft hl2
  by_cases hcl : c.length ≤ 2147483647
  · have hcl' : ¬ (2147483647 : Int) < c.length := by omega
    have HAS := Lib.hid (allStored_any es v w1 (HV.out.below HB1.out) hl1 (fun e he => by have := HL2.out e he; omega))
    go_wp2_with fail
    refine HAS.out.mono ?_
    rintro e w2 ⟨u, rfl, hown, hb2⟩
    obtain ⟨es', hes'⟩ : ∃ l, l = es.map storedE := ⟨_, rfl⟩
    have hlen' : es'.length = es.length := by rw [hes']; simp
    rw [← hes', ← hlen'] at hown
    have HES := Lib.hid hes'
    have HB2 := Lib.hid (below_up HB1.out hb2)
    have HLE := Lib.hid hlen'
    have HZ1 := Lib.hid HB1.out.size
    have HOWN := Lib.hid hown
    clear hb2 HAS hes' hlen' hown
    by_cases hk0 : k < 0
    · go_wp2
      go_ret
      exact ⟨rfl, HB2.out⟩
    obtain ⟨kk, rfl⟩ := Int.eq_ofNat_of_zero_le (by omega : 0 ≤ k)
    clear hk0
    by_cases hk1 : kk < es'.length
    · obtain ⟨g, cap, rfl, hg, hgl, hfz, hr, hset⟩ := ownRows_at HOWN.out hk1
      obtain ⟨e, he⟩ : ∃ e, e = es'[kk] := ⟨_, rfl⟩
      rw [← he] at hr hset
      have HEQ := Lib.hid he
      clear he
      obtain ⟨e1, hm1, he1⟩ : ∃ e1, e1 ∈ es ∧ e = storedE e1 := by
        have := List.getElem_mem hk1
        rw [← HEQ.out, HES.out, List.mem_map] at this
        obtain ⟨x, hx, hx2⟩ := this
        exact ⟨x, hx, hx2.symm⟩
      have HDL := Lib.hid (HL2.out e1 hm1)
      have HHE : Hid (e.hdr.method = 0 ∧ e.hdr.packed = (e.data.length : Int) ∧ e.hdr.size = (e.data.length : Int) ∧ e.hdr.crc = crc e.data ∧ e.data = e1.data) := Lib.hid (by rw [he1]; exact ⟨rfl, rfl, rfl, rfl, rfl⟩)
      have HR := Lib.hid hr
      have HSET := Lib.hid hset
      have HFZ := Lib.hid hfz
      clear hr hset hfz hm1 he1
      have hkd1 : decide ((kk : Int) < 0) = false := by simp
      have hkd2 : decide (es'.length ≤ kk) = false := by simp; omega
      by_cases hm0 : m < 1
      · go_wp2
        go_ret
        exact ⟨rfl, HB2.out⟩
      by_cases hm1 : 4294967295 < m
      · go_wp2
        go_ret
        exact ⟨rfl, HB2.out⟩
      have cr : w2.cell? ⟨g, kk * 15 + 10, none⟩ = some (.int .i64 e.hdr.crc) := HR.out 10 _ rfl
      by_cases hm2 : m = e.hdr.crc
      · have hm2b : (m == e.hdr.crc) = true := by rw [beq_iff_eq]; exact hm2
        go_wp2
        go_ret
        exact ⟨rfl, HB2.out⟩
      have hm2b : (m == e.hdr.crc) = false := by rw [beq_eq_false_iff_ne]; exact hm2
      have HNE : Hid (1 ≤ m ∧ m ≠ e.hdr.crc) := Lib.hid ⟨by omega, hm2⟩
      clear hm2
      obtain ⟨e2, he2⟩ : ∃ x : E, x = { hdr := { e.hdr with crc := m }, data := e.data } := ⟨_, rfl⟩
      have hown3 := HSET.out 10 (.int .i64 m) e2 (by decide) (by rw [he2]; rfl)
      have cs : w2.cell? ⟨g, kk * 15 + 10, none⟩ = some (.int .i64 e.hdr.crc) := HR.out 10 _ rfl
      have fz : w2.frozen? ⟨g, kk * 15 + 10, none⟩ = false := HFZ.out _
      obtain ⟨es2, hes2⟩ : ∃ l, l = es'.set kk e2 := ⟨_, rfl⟩
      rw [← hes2] at hown3
      have hl2 : es2.length = es'.length := by rw [hes2, List.length_set]
      have hk2 : kk < es2.length := by omega
      have hget : es2[kk] = e2 := by simp [hes2]
      have HK2 := Lib.hid hk2
      have HGET := Lib.hid hget
      have HL22 := Lib.hid hl2
      have HOWN3 := Lib.hid hown3
      have HE2 := Lib.hid he2
      clear hes2 hget hl2 hown3 he2
      go_upto_region 7 with fail
      generalize hW3 : w2.setCell ⟨g, kk * 15 + 10, none⟩ (.int .i64 m) = w3
      have hown3 := HOWN3.out
      rw [hW3] at hown3
      have HLI3 := Lib.hid (isList_own hown3)
      have HB3 : Hid (Below w.heap.size w w3) := Lib.hid (by rw [← hW3]; exact HB2.out.setCell (by show w.heap.size ≤ g; have := HZ1.out; omega) _)
      clear cr hm2b hown3 cs fz HOWN3 hW3 HSET HFZ HR HOWN hgl
      have hgl3 : g < w3.heap.size := by obtain ⟨_, _, _, hv, hlt, _⟩ := HLI3.out.at HK2.out; simp only [Value.slice.injEq, Option.some.injEq, Addr.mk.injEq, and_true] at hv; rw [hv.1.1]; exact hlt
      have hr3 : w3.rangeAt g (kk * 15) e2.cells := by
        obtain ⟨b, off, cap', hv, hlt, hr⟩ := HLI3.out.at HK2.out
        simp only [Value.slice.injEq, Option.some.injEq, Addr.mk.injEq, and_true] at hv
        rw [HGET.out, ← hv.1.1, ← hv.1.2] at hr
        simpa using hr
      have HR3 := Lib.hid hr3
      have HGL3 := Lib.hid hgl3
      clear hr3 hgl3
      have c0 : ∀ i x, e2.cells[i]? = some x → w3.cell? ⟨g, kk * 15 + i, none⟩ = some x := fun i x h => HR3.out i x h
      have d0 : w3.cell? ⟨g, kk * 15, none⟩ = some (.string (B e2.hdr.name)) := by simpa using c0 0 _ rfl
      have d1 : w3.cell? ⟨g, kk * 15 + 1, none⟩ = some (.string (B e2.hdr.comment)) := c0 1 _ rfl
      have d2 : w3.cell? ⟨g, kk * 15 + 2, none⟩ = some (.string (B e2.hdr.extra)) := c0 2 _ rfl
      have d3 : w3.cell? ⟨g, kk * 15 + 3, none⟩ = some (.bool e2.hdr.non) := c0 3 _ rfl
      have d4 : w3.cell? ⟨g, kk * 15 + 4, none⟩ = some (.int .i64 e2.hdr.creator) := c0 4 _ rfl
      have d5 : w3.cell? ⟨g, kk * 15 + 5, none⟩ = some (.int .i64 e2.hdr.reader) := c0 5 _ rfl
      have d6 : w3.cell? ⟨g, kk * 15 + 6, none⟩ = some (.int .i64 e2.hdr.flags) := c0 6 _ rfl
      have d7 : w3.cell? ⟨g, kk * 15 + 7, none⟩ = some (.int .i64 e2.hdr.method) := c0 7 _ rfl
      have d8 : w3.cell? ⟨g, kk * 15 + 8, none⟩ = some (.int .i64 e2.hdr.time) := c0 8 _ rfl
      have d9 : w3.cell? ⟨g, kk * 15 + 9, none⟩ = some (.int .i64 e2.hdr.date) := c0 9 _ rfl
      have d10 : w3.cell? ⟨g, kk * 15 + 10, none⟩ = some (.int .i64 e2.hdr.crc) := c0 10 _ rfl
      have d11 : w3.cell? ⟨g, kk * 15 + 11, none⟩ = some (.int .i64 e2.hdr.packed) := c0 11 _ rfl
      have d12 : w3.cell? ⟨g, kk * 15 + 12, none⟩ = some (.int .i64 e2.hdr.size) := c0 12 _ rfl
      have d13 : w3.cell? ⟨g, kk * 15 + 13, none⟩ = some (.int .i64 e2.hdr.ext) := c0 13 _ rfl
      have hgl3 := HGL3.out
      clear c0
      cases hgood : goodB es2 c
      · refine wp_region_below (by kernel_rfl) (by kernel_rfl) fun σ _ f hf hcell hmk => ?_
        have HGx := fun x => (good_any es2 c _ (f x) (HLI3.out.below (hf x)) (by have := HL22.out; have := HLE.out; omega) (by omega)).mono (R' := fun e w' => e = .returned (.bool false) ∧ ∃ y, w' = f y) fun e w' ⟨he, hb⟩ => ⟨by rw [he, hgood], hmk x w' hb⟩
        repeat (go_big_quiet_step ((first | (go_at_call 17; exact HGx _))))
        refine wpQuiet_nil ?_
        rintro _ ⟨x, rfl⟩
        go_wp2
        go_ret
        exact ⟨rfl, below_up HB3.out (hf x)⟩
      have HGOOD := Lib.hid hgood
      have HNM : Hid (∀ x ∈ es2, x.hdr.name.length ≤ 4611686018427387904) := Lib.hid fun x hx => by
        have := (entryOk_small (List.all_eq_true.1 (good_parts HGOOD.out).1 x hx)).1.name; omega
      cases hdir : directoriesB es2
      · refine wp_region_below (by kernel_rfl) (by kernel_rfl) fun σ _ f hf hcell hmk => ?_
        have HGx := fun x => (good_any es2 c _ (f x) (HLI3.out.below (hf x)) (by have := HL22.out; have := HLE.out; omega) (by omega)).mono (R' := fun e w' => e = .returned (.bool true) ∧ ∃ y, w' = f y) fun e w' ⟨he, hb⟩ => ⟨by rw [he, hgood], hmk x w' hb⟩
        have HDx := fun x => (directories_any es2 _ (f x) (HLI3.out.below (hf x)) (by have := HL22.out; have := HLE.out; omega) HNM.out).mono (R' := fun e w' => e = .returned (.bool false) ∧ ∃ y, w' = f y) fun e w' ⟨he, hb⟩ => ⟨by rw [he, hdir], hmk x w' hb⟩
        repeat (go_big_quiet_step ((first | (go_at_call 17; exact HGx _) | (go_at_call 18; exact HDx _))))
        refine wpQuiet_nil ?_
        rintro _ ⟨x, rfl⟩
        go_wp2
        go_ret
        exact ⟨rfl, below_up HB3.out (hf x)⟩
      have HDIR := Lib.hid hdir
      cases hsm : simpleB e2.hdr
      · refine wp_region_below (by kernel_rfl) (by kernel_rfl) fun σ _ f hf hcell hmk => ?_
        have HGx := fun x => (good_any es2 c _ (f x) (HLI3.out.below (hf x)) (by have := HL22.out; have := HLE.out; omega) (by omega)).mono (R' := fun e w' => e = .returned (.bool true) ∧ ∃ y, w' = f y) fun e w' ⟨he, hb⟩ => ⟨by rw [he, hgood], hmk x w' hb⟩
        have HDx := fun x => (directories_any es2 _ (f x) (HLI3.out.below (hf x)) (by have := HL22.out; have := HLE.out; omega) HNM.out).mono (R' := fun e w' => e = .returned (.bool true) ∧ ∃ y, w' = f y) fun e w' ⟨he, hb⟩ => ⟨by rw [he, hdir], hmk x w' hb⟩
        have HSx := fun x => (simple_any e2.hdr (f x)).mono (R' := fun e w' => e = .returned (.bool false) ∧ ∃ y, w' = f y) fun e w' ⟨he, hb⟩ => ⟨by rw [he, hsm], hmk x w' hb⟩
        repeat (go_big_quiet_step ((first | (go_at_call 17; exact HGx _) | (go_at_call 18; exact HDx _) | (go_at_call 19; exact HSx _))))
        refine wpQuiet_nil ?_
        rintro _ ⟨x, rfl⟩
        go_wp2
        go_ret
        exact ⟨rfl, below_up HB3.out (hf x)⟩
      have HSMT := Lib.hid hsm
      rcases (by cases e2.hdr.name <;> simp : e2.hdr.name = [] ∨ 0 < e2.hdr.name.length) with hnm | hnm
      · have HN := Lib.hid hnm
        have hie : e2.hdr.name.isEmpty = true := by rw [hnm]; rfl
        clear hnm
        refine wp_region_below (by kernel_rfl) (by kernel_rfl) fun σ _ f hf hcell hmk => ?_
        have HGx := fun x => (good_any es2 c _ (f x) (HLI3.out.below (hf x)) (by have := HL22.out; have := HLE.out; omega) (by omega)).mono (R' := fun e w' => e = .returned (.bool true) ∧ ∃ y, w' = f y) fun e w' ⟨he, hb⟩ => ⟨by rw [he, hgood], hmk x w' hb⟩
        have HDx := fun x => (directories_any es2 _ (f x) (HLI3.out.below (hf x)) (by have := HL22.out; have := HLE.out; omega) HNM.out).mono (R' := fun e w' => e = .returned (.bool true) ∧ ∃ y, w' = f y) fun e w' ⟨he, hb⟩ => ⟨by rw [he, hdir], hmk x w' hb⟩
        have HSx := fun x => (simple_any e2.hdr (f x)).mono (R' := fun e w' => e = .returned (.bool true) ∧ ∃ y, w' = f y) fun e w' ⟨he, hb⟩ => ⟨by rw [he, hsm], hmk x w' hb⟩
        repeat (go_big_quiet_step ((first | (go_at_call 17; exact HGx _) | (go_at_call 18; exact HDx _) | (go_at_call 19; exact HSx _))))
        refine wpQuiet_nil ?_
        rintro _ ⟨x, rfl⟩
        have HSLF : Hid (slash e2.hdr.name = false) := Lib.hid (by rw [HN.out]; rfl)
        have hbx := hf x
        generalize f x = w5 at hbx
        have HLI5 := Lib.hid (HLI3.out.below hbx)
        have HB5 := Lib.hid (below_up HB3.out hbx)
        have HR5 := Lib.hid (rangeAt_below hbx HR3.out HGL3.out)
        have HGL5 := Lib.hid (keepSize hbx HGL3.out)
        clear hbx hf hcell hmk
        have HAR := Lib.hid (archive_good HGOOD.out _ w5 HLI5.out)
        go_wp2_with fail
        refine HAR.out.mono ?_
        rintro r w6 ⟨rfl, hb6⟩
        have HB6 := Lib.hid (below_up HB5.out hb6)
        have HR6 := Lib.hid (rangeAt_below hb6 HR5.out HGL5.out)
        have HGL6 := Lib.hid (keepSize hb6 HGL5.out)
        have HCT := Lib.hid (content_simple (HE.out.below HB6.out) HGOOD.out HK2.out HGET.out (by rw [HE2.out]; exact HHE.out.2.1) (by rw [HE2.out]; exact Int.le_of_eq HHE.out.2.2.1.symm) (fun _ => HSMT.out))
        clear hb6 HAR HR5 HGL5
        go_wp2_with fail
        refine HCT.out.mono ?_
        rintro r w7 ⟨l, n, rfl, hn, hb7⟩
        have HB7 := Lib.hid (below_up HB6.out hb7.out)
        have HR7 := Lib.hid (rangeAt_below hb7.out HR6.out HGL6.out)
        clear hb7 HCT HR6 HGL6
        have hln : n = 3 := by
          obtain ⟨q1, q2, q3⟩ := hn.out
          obtain ⟨h1, h2, h3, h4, h5⟩ := HHE.out
          have hm : e2.hdr.method = 0 := by rw [HE2.out]; exact h1
          have hz : e2.hdr.size = (e2.data.length : Int) := by rw [HE2.out]; exact h3
          have hcr : e2.hdr.crc = m := by rw [HE2.out]
          have hd : e2.data = e.data := by rw [HE2.out]
          obtain ⟨r1, r2, r3, r4⟩ := q3 HSLF.out hm
          have hne := HNE.out
          exact r3 hz (by rw [hcr]; omega) (by rw [hcr, hd, ← h4]; exact fun h => hne.2 h.symm)
        subst hln
        go_wp2
        go_ret
        exact ⟨rfl, HB7.out⟩
      · have HN := Lib.hid hnm
        have hie : e2.hdr.name.isEmpty = false := by cases hq : e2.hdr.name with
          | nil => rw [hq] at hnm; simp at hnm
          | cons _ _ => rfl
        have hn6 : e2.hdr.name.length ≤ 60000 := by
          have := (headerOk_small (by have h := List.all_eq_true.1 (good_parts HGOOD.out).1 _ (List.getElem_mem HK2.out); rw [HGET.out] at h; simp only [entryOk, Bool.and_eq_true] at h; exact h.1)).1; exact this
        have hlast := fun w => run_last e2.hdr.name hnm w
        refine wp_region_below (by kernel_rfl) (by kernel_rfl) fun σ _ f hf hcell hmk => ?_
        have HGx := fun x => (good_any es2 c _ (f x) (HLI3.out.below (hf x)) (by have := HL22.out; have := HLE.out; omega) (by omega)).mono (R' := fun e w' => e = .returned (.bool true) ∧ ∃ y, w' = f y) fun e w' ⟨he, hb⟩ => ⟨by rw [he, hgood], hmk x w' hb⟩
        have HDx := fun x => (directories_any es2 _ (f x) (HLI3.out.below (hf x)) (by have := HL22.out; have := HLE.out; omega) HNM.out).mono (R' := fun e w' => e = .returned (.bool true) ∧ ∃ y, w' = f y) fun e w' ⟨he, hb⟩ => ⟨by rw [he, hdir], hmk x w' hb⟩
        have HSx := fun x => (simple_any e2.hdr (f x)).mono (R' := fun e w' => e = .returned (.bool true) ∧ ∃ y, w' = f y) fun e w' ⟨he, hb⟩ => ⟨by rw [he, hsm], hmk x w' hb⟩
        repeat (go_big_quiet_step ((first | (go_at_call 17; exact HGx _) | (go_at_call 18; exact HDx _) | (go_at_call 19; exact HSx _))))
        refine wpQuiet_nil ?_
        rintro _ ⟨x, rfl⟩
        go_wp2_with fail
        · go_ret
          exact ⟨rfl, below_up HB3.out (hf x)⟩
        have h47 : (((e2.hdr.name[e2.hdr.name.length - 1]'(by have := HN.out; omega)).toNat : Int) == 47) = false := ‹_›
        rw [beq_eq_false_iff_ne] at h47
        have HSLF : Hid (slash e2.hdr.name = false) := Lib.hid (by
          rw [slash_name HN.out, beq_eq_false_iff_ne]; intro e'; apply h47; rw [e']; rfl)
        clear h47
        have hbx := hf x
        generalize f x = w5 at hbx
        have HLI5 := Lib.hid (HLI3.out.below hbx)
        have HB5 := Lib.hid (below_up HB3.out hbx)
        have HR5 := Lib.hid (rangeAt_below hbx HR3.out HGL3.out)
        have HGL5 := Lib.hid (keepSize hbx HGL3.out)
        clear hbx hf hcell hmk
        have HAR := Lib.hid (archive_good HGOOD.out _ w5 HLI5.out)
        go_wp2_with fail
        refine HAR.out.mono ?_
        rintro r w6 ⟨rfl, hb6⟩
        have HB6 := Lib.hid (below_up HB5.out hb6)
        have HR6 := Lib.hid (rangeAt_below hb6 HR5.out HGL5.out)
        have HGL6 := Lib.hid (keepSize hb6 HGL5.out)
        have HCT := Lib.hid (content_simple (HE.out.below HB6.out) HGOOD.out HK2.out HGET.out (by rw [HE2.out]; exact HHE.out.2.1) (by rw [HE2.out]; exact Int.le_of_eq HHE.out.2.2.1.symm) (fun _ => HSMT.out))
        clear hb6 HAR HR5 HGL5
        go_wp2_with fail
        refine HCT.out.mono ?_
        rintro r w7 ⟨l, n, rfl, hn, hb7⟩
        have HB7 := Lib.hid (below_up HB6.out hb7.out)
        have HR7 := Lib.hid (rangeAt_below hb7.out HR6.out HGL6.out)
        clear hb7 HCT HR6 HGL6
        have hln : n = 3 := by
          obtain ⟨q1, q2, q3⟩ := hn.out
          obtain ⟨h1, h2, h3, h4, h5⟩ := HHE.out
          have hm : e2.hdr.method = 0 := by rw [HE2.out]; exact h1
          have hz : e2.hdr.size = (e2.data.length : Int) := by rw [HE2.out]; exact h3
          have hcr : e2.hdr.crc = m := by rw [HE2.out]
          have hd : e2.data = e.data := by rw [HE2.out]
          obtain ⟨r1, r2, r3, r4⟩ := q3 HSLF.out hm
          have hne := HNE.out
          exact r3 hz (by rw [hcr]; omega) (by rw [hcr, hd, ← h4]; exact fun h => hne.2 h.symm)
        subst hln
        go_wp2
        go_ret
        exact ⟨rfl, HB7.out⟩
    · obtain ⟨fx, fcap, hfm⟩ := own_form HOWN.out
      subst hfm
      go_wp2
      go_ret
      exact ⟨rfl, HB2.out⟩
  · have hcl' : (2147483647 : Int) < c.length := by omega
    go_wp2
    go_ret
    exact ⟨rfl, HB1.out⟩
end Go.Proofs.Zip
namespace Go.Proofs.YtiipmnaonidojaaGreatDoor
open Go Go.ChangeShapes Go.WideShapes Go.ChangeAt Go.RowKit Go.Proofs.Zip Go.Deep
namespace fnContentChecksum
abbrev fid : Nat := 3
theorem laid_same : Rows.fnContentChecksumRow.laid = laidL := rfl
set_option maxRecDepth 100000 in
/-- What the walk gives, for every input that can be read. -/
theorem contract (H : Type) (enc : TypeId × Value → H) (W : World) (base : Nat) (args : Array Value) (ds gs : List (DataW H)) (before : List MemPlace)
    (hval : ∀ (j : Nat) t v, Tryz.f3.params[j]? = some t → args[j]? = some v → Value.okWide Tryz.prog W .any base t v)
    (hW : DataW.Whole enc Tryz.prog Tryz.f3.params.toList Rows.fnContentChecksumSpec.vars false W args.toList ds gs before) (hL : laidMetH Tryz.prog Rows.fnContentChecksumRow.laid W) :
    Calls Tryz.prog 3 args W fun e W' => ∃ v, e = .returned v ∧ Rows.fnContentChecksumSpec.post enc Tryz.prog Tryz.f3 false true false false W args v W' := by
  have hW' := hW
  obtain ⟨p, q, hA0, hV, rfl, _, _⟩ := hW
  have hA : DataW.TrodAll enc Tryz.prog W 0 (fun _ => true) true Tryz.f3.params.toList args.toList ds p := hA0
  rw [Tryz.params3] at hA hval
  obtain ⟨v0, vs0, d0, ds0, p0, q0, hargs, rfl, rfl, h0, r0⟩ := trodAll_cons hA
  obtain ⟨v1, vs1, d1, ds1, p1, q1, rfl, rfl, rfl, h1, r1⟩ := trodAll_cons r0
  obtain ⟨v2, vs2, d2, ds2, p2, q2, rfl, rfl, rfl, h2, r2⟩ := trodAll_cons r1
  obtain ⟨v3, vs3, d3, ds3, p3, q3, rfl, rfl, rfl, h3, r3⟩ := trodAll_cons r2
  obtain ⟨rfl, rfl, rfl⟩ := trodAll_nil r3
  obtain rfl : args = #[v0, v1, v2, v3] := by cases args; simp_all
  obtain ⟨E0, hE⟩ : ∃ E0, Env W W.heap.size E0 := by
    rw [laid_same] at hL
    rw [MakeChecks.laidMetH_plain _ _ _ (by kernel_rfl)] at hL
    exact env_of hL
  have hk0 := h0
  have hk1 := h1
  have hk2 := h2
  have hk3 := h3
  obtain ⟨es0, hes0, hel0⟩ := rd_list h0 (okWide_slice Tryz.underlying22 (hval 0 22 v0 rfl rfl))
  obtain ⟨c1, rfl, hc1⟩ : ∃ l : List UInt8, v1 = .string (B l) ∧ l.length ≤ 9223372036854775807 := rd_text h1 (hval 1 9 v1 rfl rfl)
  obtain ⟨n2, rfl, -, -, wf2⟩ := open_int Tryz.underlying3 (hval 2 3 v2 rfl rfl) h2
  obtain ⟨n3, rfl, -, -, wf3⟩ := open_int Tryz.underlying3 (hval 3 3 v3 rfl rfl) h3
  have hlt : ∀ x ∈ ((p0 ++ (p1 ++ (p2 ++ (p3 ++ []))))) ++ q, x.block < W.heap.size := fun x hx => by simpa using hW'.lt x (by simpa using hx)
  refine (contentChecksum_any es0 c1 n2 n3 v0 W hE hes0 hel0 hc1).mono fun e W' ⟨he, hb⟩ => ?_
  subst he
  have hV' := Below.trodVars laidOut hb varsOk hV
  obtain ⟨g1, g2, g3, g4, rfl⟩ := four_of_vars hV
  refine ⟨_, rfl, _, _, _, [], p0 ++ (p1 ++ (p2 ++ (p3 ++ ([])))), q, hW', trodAll_cons_mk (shut_bool Tryz.underlying4 true) trodAll_mk0, ?_, hV', hb.frame _, fun h => by cases h⟩
  exact trodAll_cons_mk (Below.trod laidOut (by kernel_rfl) (of_decide_eq_true (by kernel_rfl)) hk0 hb (fun x hx => hlt x (by simp [hx]))) (trodAll_cons_mk (Below.trod laidOut (by kernel_rfl) (of_decide_eq_true (by kernel_rfl)) hk1 hb (fun x hx => hlt x (by simp [hx]))) (trodAll_cons_mk (Below.trod laidOut (by kernel_rfl) (of_decide_eq_true (by kernel_rfl)) hk2 hb (fun x hx => hlt x (by simp [hx]))) (trodAll_cons_mk (Below.trod laidOut (by kernel_rfl) (of_decide_eq_true (by kernel_rfl)) hk3 hb (fun x hx => hlt x (by simp [hx]))) (trodAll_mk0))))
set_option maxRecDepth 100000 in
theorem lifted (os : Os) (started : os.Started) (H : Type) (enc : TypeId × Value → H) :
    ReturnsInHanded {} Tryz.checked os 3 .any (fun w args => (Rows.fnContentChecksumSpec.pre enc Tryz.prog Tryz.f3 Rows.fnContentChecksumRow.domain false w args ∧ laidMetH Tryz.prog Rows.fnContentChecksumRow.laid w) ∧ sizedMet enc Tryz.prog Tryz.f3 (OpenSpec.ofChange Rows.fnContentChecksumSpec) false w args)
      (Rows.fnContentChecksumSpec.post enc Tryz.prog Tryz.f3 false true false false) := by
  refine returnsInHanded_of_change_and (C := Tryz.checked) (X := fun w _ => laidMetH Tryz.prog Rows.fnContentChecksumRow.laid w) (fun _ _ _ hh h => h.of_heap hh) own started (by kernel_rfl) Tryz.func3
    (ChangeSpec.witness_shaped (enc := enc) (C := Tryz.checked) (os := os) (X := fun w _ => laidMetH Tryz.prog Rows.fnContentChecksumRow.laid w) false (World.laidAll Tryz.prog os Rows.fnContentChecksumRow.laid) #[.slice none 0 0, .string ByteArray.empty, .int .i64 0, .int .i64 0] 8 (World.laidAll_os _ _ _)
      (World.shaped_of_ZipB (by kernel_rfl) (by kernel_rfl)) (by kernel_rfl) (by kernel_rfl) (by kernel_rfl)
      (by rw [MakeChecks.laidMetH_plain _ _ _ (by kernel_rfl)]; exact laidMet_laidAll _ (by kernel_rfl) (by kernel_rfl))) ?_
  intro W base args ds gs before hval hW _ _ hL _
  exact contract H enc W base args ds gs before hval hW hL
set_option maxRecDepth 100000 in
set_option maxHeartbeats 8000000 in
theorem closed : joinedFacts Tryz.pinned.checked.prog 3 Tryz.f3 Rows.fnContentChecksumSpec Rows.fnContentChecksumRow = true := by
  unfold joinedFacts
  rw [show Tryz.pinned.checked.prog = Tryz.prog from rfl, head_enter, head_final, head_make]
  repeat' (with_reducible refine Bool.and_eq_true_iff.2 ⟨?_, ?_⟩)
  all_goals as_aux_lemma => kernel_rfl
theorem wrapped : Tryz.f3.isWrapper Tryz.pinned.checked.prog Rows.fnContentChecksumRow.wrapper Rows.fnContentChecksumRow.mainSum := by unfold Func.isWrapper; first | (rw [if_pos (by decide +kernel)]; kernel_rfl) | (rw [if_neg (by decide +kernel)]; exact ⟨rfl, rfl⟩)
set_option maxRecDepth 100000 in
theorem said : Rows.FnContentChecksumSaid :=
  OpenClaim.holds_of_wide 3 Tryz.f3 rfl rfl rfl rfl rfl rfl rfl ⟨rfl, rfl, rfl, rfl, rfl⟩ rfl rfl rfl rfl rfl (by kernel_rfl) Tryz.func3 closed
    (of_decide_eq_true (by kernel_rfl)) wrapped
    (fun os started H enc _ => lifted os started H enc)
/-- No parameter wants a stand-in. -/
theorem plain (f : FuncId) (fn : Func) (hf : Tryz.pinned.checked.prog.funcNamed "loop.example/pub-ziparchives/laws.FnContentChecksum" = some f) (hfn : Tryz.pinned.checked.prog.funcs[f]? = some fn) :
    true = Tryz.pinned.checked.prog.looks [] ∧ ∀ (j : Nat) t, fn.params[j]? = some t → Tryz.pinned.checked.prog.wantsStandIn t = false := by
  obtain rfl : f = 3 := Option.some.inj ((show Tryz.prog.funcNamed "loop.example/pub-ziparchives/laws.FnContentChecksum" = some 3 by kernel_rfl).symm.trans hf) |>.symm
  obtain rfl : fn = Tryz.f3 := (Option.some.inj (Tryz.func3.symm.trans hfn)).symm
  refine ⟨by kernel_rfl, fun j t ht => ?_⟩
  rw [Tryz.params3] at ht
  have hm : t ∈ [22, 9, 3, 3] := by simpa using Array.mem_of_getElem? ht
  have hall : ([22, 9, 3, 3].all fun u => !Tryz.prog.wantsStandIn u) = true := by kernel_rfl
  exact (show Tryz.prog.wantsStandIn t = false by simpa using List.all_eq_true.1 hall t hm)
set_option maxRecDepth 100000 in
/-- THE CARD. -/
theorem card : Rows.FnContentChecksumCardSaid :=
  Claim7.holds_tied_plain_at .later [] _ _ _ _ said (fun _ h => by cases h) (by kernel_rfl) (fun _ h => by cases h) fnContentChecksum_row_tie rfl ⟨rfl, rfl⟩ head_main rfl plain (by kernel_rfl)
end fnContentChecksum
end Go.Proofs.YtiipmnaonidojaaGreatDoor
