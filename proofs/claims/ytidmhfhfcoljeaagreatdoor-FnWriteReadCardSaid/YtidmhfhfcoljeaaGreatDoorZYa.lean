/- A part of a proof over the given program: Wh2. Nothing is assumed here. -/
import Derived.Test.YtidmhfhfcoljeaaGreatDoorZY
namespace Go.Proofs.Zip
open Go Go.RowKit
set_option maxRecDepth 100000 in
set_option maxHeartbeats 8000000 in
/-- With a descriptor to come: no checksum and no sizes. -/
theorem writeHeaderD_any (O : Wr) (hO : O.Ok) (L : List UInt8) (ob : Option Nat) (hb fh : Nat) (off : Int) (h : H) (non : Bool) (t0 t1 t2 x : Value) (c u : Int) (w : World) (hw : OutC w O L ob) (hh : Hb w O ob hb fh off false h non t0 t1 t2 x c u) (hlen : L.length + 200000 ≤ 140737488355328) (hbase : O.base ≤ w.heap.size) :
    Calls Tryz.prog 79 #[cwv O, .pointer (some ⟨hb, 0, none⟩)] w fun e w' => e = .returned .nilIface ∧ ∃ ob', Hid (OutC w' O (L ++ localL { h with crc := 0, packed := 0, size := 0 }) ob' ∧ obNext ob ob' w.heap.size ∧ Fr (O.all ob) w w') := by
  obtain ⟨_, ord, ofl, ome, oti, oda, ocr, opa, osi, _, ona, _, oex⟩ := hh.ok
  have hbl := hh.bh.lt
  have fhl := hh.bf.lt
  have xl := hh.bx.lt
  obtain ⟨xa, xn, xc, hxv⟩ : ∃ a n c, x = .slice a n c := by
    rcases hh.bx with ⟨rfl, _⟩ | ⟨d, o, cap, rfl, _⟩
    · exact ⟨_, _, _, rfl⟩
    · exact ⟨_, _, _, rfl⟩
  have hxn : xn = h.extra.length := by
    rcases hh.bx with ⟨e, e2⟩ | ⟨d, o, cap, e, _⟩
    · rw [hxv] at e; cases e; rw [e2]; rfl
    · rw [hxv] at e; cases e; rfl
  subst hxv
  subst hxn
  have a0 : w.cell? ⟨hb, 0, none⟩ = some (.pointer (some ⟨fh, 0, none⟩)) := hh.bh.cell 0
  have a2 : w.cell? ⟨hb, 2, none⟩ = some (.bool false) := hh.bh.cell 2
  have b0 : w.cell? ⟨fh, 0, none⟩ = some (.string (B h.name)) := hh.bf.cell 0
  have b4 : w.cell? ⟨fh, 4, none⟩ = some (.int .u16 h.reader) := hh.bf.cell 4
  have b15 : w.cell? ⟨fh, 15, none⟩ = some (.int .u64 h.packed) := hh.bf.cell 15
  have b16 : w.cell? ⟨fh, 16, none⟩ = some (.int .u64 h.size) := hh.bf.cell 16
  have b17 : w.cell? ⟨fh, 17, none⟩ = some (.slice xa h.extra.length xc) := hh.bf.cell 17
  have q1 : ¬ ((65535 : Int) < h.name.length) := by omega
  have q2 : ¬ ((65535 : Int) < h.extra.length) := by omega
  have q3 : ¬ ((4294967295 : Int) < h.packed) := by omega
  have q4 : ¬ ((4294967295 : Int) < h.size) := by omega
  have HDD := Lib.hid (dataDescH_any fh h non t0 t1 t2 _ c u w hh.bf)
  have HW := Lib.hid hw
  have HH := Lib.hid hh
  clear hw hh
  go_enter Tryz.func79, Tryz.ntmps79
  go_upto_region 16 with (go_at_call 83; refine HDD.out.mono ?_; rintro e w1 ⟨rfl, rfl⟩)
  go_wp2_with (refine wpList_alloc_zero rfl 192 rfl 30 (by kernel_rfl) ?_)
  have W0 : Hid (WB ((w.alloc (.cells (zeroA 30) 192)).alloc (.cells #[.slice (some ⟨w.heap.size, 0, none⟩) 30 30] 147)) (w.heap.size + 1) w.heap.size 30 [] 192) := Lib.hid ⟨⟨_, Blk.new' _ _ (by simp), fun _ => rfl⟩, by rw [put_nil]; exact (Blk.new _ _ _).alloc _, by simp⟩
  have G0 : Hid (Below w.heap.size w ((w.alloc (.cells (zeroA 30) 192)).alloc (.cells #[.slice (some ⟨w.heap.size, 0, none⟩) 30 30] 147))) := Lib.hid (((Below.refl w.heap.size w).alloc (Nat.le_refl _) _).alloc (by simp) _)
  have hvg : w.heap.size + 1 ≠ w.heap.size := by omega
  have VG := Lib.hid hvg
  have A0 := Lib.hid a0
  have BF := Lib.hid HH.out.bf
  have rn : IntKind.u16.wrap (h.name.length : Int) = (h.name.length : Int) := by rw [IntKind.wrap_u16]; omega
  have rx : IntKind.u16.wrap (h.extra.length : Int) = (h.extra.length : Int) := by rw [IntKind.wrap_u16]; omega
  clear hvg a0 a2 b0 b4 b15 b16 b17 q1 q2 q3 q4 HDD
  have S0 := Lib.hid (W0.out.u32i VG.out 67324752 (by omega) (by omega) (by simp))
  go_wp2_with fail
  refine S0.out.mono ?_
  rintro e w1 ⟨rfl, hw, hf⟩
  have W1 := Lib.hid hw
  have G1 : Hid (Below w.heap.size w w1) := Lib.hid (G0.out.trans (hf.below G0.out.size (by rintro i hi (e | e) <;> omega)))
  clear hw hf S0 W0 G0
  try clear a0 b1
  have S1 := Lib.hid (W1.out.u16i VG.out h.reader (by omega) (by omega) (by simp))
  go_wp2_with fail
  refine S1.out.mono ?_
  rintro e w2 ⟨rfl, hw, hf⟩
  have W2 := Lib.hid hw
  have G2 : Hid (Below w.heap.size w w2) := Lib.hid (G1.out.trans (hf.below G1.out.size (by rintro i hi (e | e) <;> omega)))
  clear hw hf S1 W1 G1
  try clear a0 b1
  have a0 : w2.cell? ⟨hb, 0, none⟩ = some (.pointer (some ⟨fh, 0, none⟩)) := (G2.out.cell (p := ⟨hb, 0, none⟩) hbl).trans A0.out
  have b1 : w2.cell? ⟨fh, 5, none⟩ = some (.int .u16 h.flags) := (G2.out.cell (p := ⟨fh, 5, none⟩) fhl).trans (BF.out.cell 5)
  have S2 := Lib.hid (W2.out.u16i VG.out h.flags (by omega) (by omega) (by simp))
  go_wp2_with fail
  refine S2.out.mono ?_
  rintro e w3 ⟨rfl, hw, hf⟩
  have W3 := Lib.hid hw
  have G3 : Hid (Below w.heap.size w w3) := Lib.hid (G2.out.trans (hf.below G2.out.size (by rintro i hi (e | e) <;> omega)))
  clear hw hf S2 W2 G2
  try clear a0 b1
  have a0 : w3.cell? ⟨hb, 0, none⟩ = some (.pointer (some ⟨fh, 0, none⟩)) := (G3.out.cell (p := ⟨hb, 0, none⟩) hbl).trans A0.out
  have b1 : w3.cell? ⟨fh, 6, none⟩ = some (.int .u16 h.method) := (G3.out.cell (p := ⟨fh, 6, none⟩) fhl).trans (BF.out.cell 6)
  have S3 := Lib.hid (W3.out.u16i VG.out h.method (by omega) (by omega) (by simp))
  go_wp2_with fail
  refine S3.out.mono ?_
  rintro e w4 ⟨rfl, hw, hf⟩
  have W4 := Lib.hid hw
  have G4 : Hid (Below w.heap.size w w4) := Lib.hid (G3.out.trans (hf.below G3.out.size (by rintro i hi (e | e) <;> omega)))
  clear hw hf S3 W3 G3
  try clear a0 b1
  have a0 : w4.cell? ⟨hb, 0, none⟩ = some (.pointer (some ⟨fh, 0, none⟩)) := (G4.out.cell (p := ⟨hb, 0, none⟩) hbl).trans A0.out
  have b1 : w4.cell? ⟨fh, 10, none⟩ = some (.int .u16 h.time) := (G4.out.cell (p := ⟨fh, 10, none⟩) fhl).trans (BF.out.cell 10)
  have S4 := Lib.hid (W4.out.u16i VG.out h.time (by omega) (by omega) (by simp))
  go_wp2_with fail
  refine S4.out.mono ?_
  rintro e w5 ⟨rfl, hw, hf⟩
  have W5 := Lib.hid hw
  have G5 : Hid (Below w.heap.size w w5) := Lib.hid (G4.out.trans (hf.below G4.out.size (by rintro i hi (e | e) <;> omega)))
  clear hw hf S4 W4 G4
  try clear a0 b1
  have a0 : w5.cell? ⟨hb, 0, none⟩ = some (.pointer (some ⟨fh, 0, none⟩)) := (G5.out.cell (p := ⟨hb, 0, none⟩) hbl).trans A0.out
  have b1 : w5.cell? ⟨fh, 11, none⟩ = some (.int .u16 h.date) := (G5.out.cell (p := ⟨fh, 11, none⟩) fhl).trans (BF.out.cell 11)
  have S5 := Lib.hid (W5.out.u16i VG.out h.date (by omega) (by omega) (by simp))
  go_wp2_with fail
  refine S5.out.mono ?_
  rintro e w6 ⟨rfl, hw, hf⟩
  have W6 := Lib.hid hw
  have G6 : Hid (Below w.heap.size w w6) := Lib.hid (G5.out.trans (hf.below G5.out.size (by rintro i hi (e | e) <;> omega)))
  clear hw hf S5 W5 G5
  try clear a0 b1
  have S6 := Lib.hid (W6.out.u32i VG.out 0 (by omega) (by omega) (by simp))
  go_wp2_with fail
  refine S6.out.mono ?_
  rintro e w7 ⟨rfl, hw, hf⟩
  have W7 := Lib.hid hw
  have G7 : Hid (Below w.heap.size w w7) := Lib.hid (G6.out.trans (hf.below G6.out.size (by rintro i hi (e | e) <;> omega)))
  clear hw hf S6 W6 G6
  try clear a0 b1
  have S7 := Lib.hid (W7.out.u32i VG.out 0 (by omega) (by omega) (by simp))
  go_wp2_with fail
  refine S7.out.mono ?_
  rintro e w8 ⟨rfl, hw, hf⟩
  have W8 := Lib.hid hw
  have G8 : Hid (Below w.heap.size w w8) := Lib.hid (G7.out.trans (hf.below G7.out.size (by rintro i hi (e | e) <;> omega)))
  clear hw hf S7 W7 G7
  try clear a0 b1
  have S8 := Lib.hid (W8.out.u32i VG.out 0 (by omega) (by omega) (by simp))
  go_wp2_with fail
  refine S8.out.mono ?_
  rintro e w9 ⟨rfl, hw, hf⟩
  have W9 := Lib.hid hw
  have G9 : Hid (Below w.heap.size w w9) := Lib.hid (G8.out.trans (hf.below G8.out.size (by rintro i hi (e | e) <;> omega)))
  clear hw hf S8 W8 G8
  try clear a0 b1
  have a0 : w9.cell? ⟨hb, 0, none⟩ = some (.pointer (some ⟨fh, 0, none⟩)) := (G9.out.cell (p := ⟨hb, 0, none⟩) hbl).trans A0.out
  have b1 : w9.cell? ⟨fh, 0, none⟩ = some (.string (B h.name)) := (G9.out.cell (p := ⟨fh, 0, none⟩) fhl).trans (BF.out.cell 0)
  have S9 := Lib.hid (W9.out.u16i VG.out (h.name.length : Int) (by omega) (by omega) (by simp))
  go_wp2_with fail
  refine S9.out.mono ?_
  rintro e w10 ⟨rfl, hw, hf⟩
  have W10 := Lib.hid hw
  have G10 : Hid (Below w.heap.size w w10) := Lib.hid (G9.out.trans (hf.below G9.out.size (by rintro i hi (e | e) <;> omega)))
  clear hw hf S9 W9 G9
  try clear a0 b1
  have a0 : w10.cell? ⟨hb, 0, none⟩ = some (.pointer (some ⟨fh, 0, none⟩)) := (G10.out.cell (p := ⟨hb, 0, none⟩) hbl).trans A0.out
  have b1 : w10.cell? ⟨fh, 17, none⟩ = some (.slice xa h.extra.length xc) := (G10.out.cell (p := ⟨fh, 17, none⟩) fhl).trans (BF.out.cell 17)
  have S10 := Lib.hid (W10.out.u16i VG.out (h.extra.length : Int) (by omega) (by omega) (by simp))
  go_wp2_with fail
  refine S10.out.mono ?_
  rintro e w11 ⟨rfl, hw, hf⟩
  have W11 := Lib.hid hw
  have G11 : Hid (Below w.heap.size w w11) := Lib.hid (G10.out.trans (hf.below G10.out.size (by rintro i hi (e | e) <;> omega)))
  clear hw hf S10 W10 G10
  have W := W11.out
  obtain ⟨P, hP⟩ : ∃ P, P = ([] ++ leB 4 67324752 ++ leB 2 h.reader ++ leB 2 h.flags ++ leB 2 h.method ++ leB 2 h.time ++ leB 2 h.date ++ leB 4 0 ++ leB 4 0 ++ leB 4 0 ++ leB 2 (h.name.length : Int) ++ leB 2 (h.extra.length : Int)) := ⟨_, rfl⟩
  rw [← hP] at W
  have hPl : P.length = 30 := by rw [hP]; simp
  have HLOC : Hid (localL { h with crc := 0, packed := 0, size := 0 } = P ++ h.name ++ h.extra) := Lib.hid (by
    rw [hP, show leB 4 67324752 = [80, 75, 3, 4] by decide +kernel]
    simp [localL, fieldsL, List.append_assoc])
  have hsz := G11.out.size
  have hna := fun n w => nilAhead_cw n O.cw w
  have hg11 := W.buf.lt
  have HC1 := Lib.hid (cwWrite_still O hO (.slice (some ⟨w.heap.size, 0, none⟩) 30 30) L P ob w11 (HW.out.fr (Fr.of_below (S := fun _ => False) G11.out) (fun _ _ => id)) (.inr ⟨w.heap.size, 0, 30, by rw [hPl], hg11, by omega, W.full hPl⟩) (by
    intro d hd
    have hd2 : w.heap.size = d := Option.some.inj hd
    subst hd2
    rintro ((e | e | e | e) | e)
    · have := HW.out.out.lts.1; omega
    · have := HW.out.out.lts.2.1; omega
    · have := HW.out.out.lts.2.2; omega
    · have := (HW.out.out.obs _ e.symm).2; omega
    · have := HW.out.cw.lt; omega) (by omega) (by omega) 30 hPl)
  have HPL := Lib.hid hPl
  clear hP hPl W W11 hg11
  try clear a0 b1
  go_upto_region 36 with fail
  go_region_with (go_at_call 95; refine (HC1.out _ ?hh).mono ?_; (case hh => exact (Fr.refl _ _).drew); rintro e w12 ⟨rfl, ob1, h12⟩)
  have FR12 : Hid (Fr (O.all ob) w w12) := Lib.hid ((Fr.of_below (S := O.all ob) G11.out).trans h12.out.2.2 (fun _ _ h => h))
  have ON1 : Hid (obNext ob ob1 w.heap.size) := Lib.hid (by
    rcases h12.out.2.1 with h | ⟨y, h, h4⟩
    · exact .inl h
    · exact .inr ⟨y, h, by omega⟩)
  have OC1 := Lib.hid h12.out.1
  have a0 : w12.cell? ⟨hb, 0, none⟩ = some (.pointer (some ⟨fh, 0, none⟩)) := (FR12.out.cell hbl HH.out.s1).trans A0.out
  have b1 : w12.cell? ⟨fh, 0, none⟩ = some (.string (B h.name)) := (FR12.out.cell fhl HH.out.s2).trans (BF.out.cell 0)
  have hcv := fun w => run_bytes h.name w
  clear h12 HC1
  go_upto_region 39 with fail
  have HC2 := Lib.hid (cwBytes_any O hO (L ++ P) h.name ob1 w12 OC1.out (by rw [List.length_append, HPL.out]; omega) (Nat.le_trans hbase FR12.out.size) w12.drew (Fr.refl _ _).drew)
  refine wp_cut (Rwh 14 O hb (fun wx => ∃ ob2, Hid (OutC wx O (L ++ P ++ h.name) ob2 ∧ obNext ob ob2 w.heap.size ∧ Fr (O.all ob) w wx))) ?rest ?first
  case first =>
    intro J K hJ hK
    as_aux_lemma =>
      go_region_with (go_at_call 95; refine HC2.out.mono ?_; rintro e w13 ⟨rfl, ob2, h13⟩)
      all_goals refine hK _ _ (Met.intro (hJ _ _ ?_))
      all_goals go_simp
      all_goals
        have hq := And.intro h13.out.1 (And.intro (ON1.out.trans h13.out.2.1 FR12.out.size) (FR12.out.alls h13.out.2.2 ON1.out))
        simp only [List.append_assoc] at hq
        exact ⟨rfl, rfl, rfl, rfl, rfl, rfl, ob2, Lib.hid hq⟩
  case rest =>
    intro a' w13 hR
    obtain ⟨hr1, hr2, r0, r1, r5, r14, ob2, h13⟩ := hR
    obtain ⟨u, rfl⟩ := frame252 a' hr1 hr2
    have u0 : u 0 = cwv O := r0
    have u1 : u 1 = .pointer (some ⟨hb, 0, none⟩) := r1
    have u5 : u 5 = .slice none 0 0 := r5
    have u14 : u 14 = .nilIface := r14
    rw [u0, u1, u5, u14]
    clear hr1 hr2 r0 r1 r5 r14 u0 u1 u5 u14
    have FR13 := Lib.hid h13.out.2.2
    have ON2 := Lib.hid h13.out.2.1
    have OC2 := Lib.hid h13.out.1
    clear a0 b1 hcv h13 HC2 OC1 FR12 ON1
    have a0 : w13.cell? ⟨hb, 0, none⟩ = some (.pointer (some ⟨fh, 0, none⟩)) := (FR13.out.cell hbl HH.out.s1).trans A0.out
    have b1 : w13.cell? ⟨fh, 17, none⟩ = some (.slice xa h.extra.length xc) := (FR13.out.cell fhl HH.out.s2).trans (BF.out.cell 17)
    have HX := HH.out.bx.fr FR13.out HH.out.s3
    have HC3 := Lib.hid (cwWrite_still O hO _ (L ++ P ++ h.name) h.extra ob2 w13 OC2.out HX (fun d hd => Wr.all_next ON2.out (xl d hd) (HH.out.s3 d hd)) (by rw [List.length_append, List.length_append, HPL.out]; omega) (Nat.le_trans hbase FR13.out.size) _ rfl)
    have hxf : xa = none ∨ ∃ d o, xa = some ⟨d, o, none⟩ := by
      rcases HH.out.bx with ⟨e, _⟩ | ⟨d, o, cap, e, _⟩
      · simp only [Value.slice.injEq] at e
        exact .inl e.1
      · simp only [Value.slice.injEq] at e
        exact .inr ⟨d, o, e.1⟩
    clear HX
    go_upto_region 42 with fail
    refine wp_cut (Rwh 16 O hb (fun wx => ∃ ob3, Hid (OutC wx O (L ++ P ++ h.name ++ h.extra) ob3 ∧ obNext ob ob3 w.heap.size ∧ Fr (O.all ob) w wx))) ?rest2 ?first2
    case first2 =>
      intro J K hJ hK
      rcases hxf with rfl | ⟨xd, xo, rfl⟩
      · as_aux_lemma =>
          go_region_with (go_at_call 95; refine (HC3.out _ ?hh).mono ?_; (case hh => exact (Fr.refl _ _).drew); rintro e w14 ⟨rfl, ob3, h14⟩)
          all_goals refine hK _ _ (Met.intro (hJ _ _ ?_))
          all_goals go_simp
          all_goals
            have hq := And.intro h14.out.1 (And.intro (ON2.out.trans h14.out.2.1 FR13.out.size) (FR13.out.alls h14.out.2.2 ON2.out))
            simp only [List.append_assoc] at hq
            exact ⟨rfl, rfl, rfl, rfl, rfl, rfl, ob3, Lib.hid hq⟩
      · as_aux_lemma =>
          go_region_with (go_at_call 95; refine (HC3.out _ ?hh).mono ?_; (case hh => exact (Fr.refl _ _).drew); rintro e w14 ⟨rfl, ob3, h14⟩)
          all_goals refine hK _ _ (Met.intro (hJ _ _ ?_))
          all_goals go_simp
          all_goals
            have hq := And.intro h14.out.1 (And.intro (ON2.out.trans h14.out.2.1 FR13.out.size) (FR13.out.alls h14.out.2.2 ON2.out))
            simp only [List.append_assoc] at hq
            exact ⟨rfl, rfl, rfl, rfl, rfl, rfl, ob3, Lib.hid hq⟩
    case rest2 =>
      intro a' w14 hR
      obtain ⟨hr1, hr2, r0, r1, r5, r16, ob3, h14⟩ := hR
      obtain ⟨u, rfl⟩ := frame252 a' hr1 hr2
      have u0 : u 0 = cwv O := r0
      have u1 : u 1 = .pointer (some ⟨hb, 0, none⟩) := r1
      have u5 : u 5 = .slice none 0 0 := r5
      have u16 : u 16 = .nilIface := r16
      rw [u0, u1, u5, u16]
      clear hr1 hr2 r0 r1 r5 r16 u0 u1 u5 u16
      have FR14 := Lib.hid h14.out.2.2
      have ON3 := Lib.hid h14.out.2.1
      have OC3 := Lib.hid h14.out.1
      clear a0 b1 h14 HC3 OC2 FR13 ON2
      have HC4 := Lib.hid (cwWrite_any O hO (.slice none 0 0) (L ++ P ++ h.name ++ h.extra) [] ob3 w14 OC3.out (.inl ⟨rfl, rfl⟩) (fun d hd => by cases hd) (by simp only [List.length_append, HPL.out, List.length_nil]; omega) (Nat.le_trans hbase FR14.out.size))
      go_wp2_with fail
      refine HC4.out.mono ?_
      rintro e w15 ⟨rfl, ob4, h15⟩
      have FIN : Hid (OutC w15 O (L ++ localL { h with crc := 0, packed := 0, size := 0 }) ob4 ∧ obNext ob ob4 w.heap.size ∧ Fr (O.all ob) w w15) := Lib.hid ⟨by
        have := h15.out.1
        rw [HLOC.out]
        simpa [List.append_assoc] using this, ON3.out.trans h15.out.2.1 FR14.out.size, FR14.out.alls h15.out.2.2 ON3.out⟩
      clear h15 HC4 OC3 FR14 ON3
      go_wp2
      go_ret
      exact ⟨rfl, ob4, FIN⟩
end Go.Proofs.Zip
