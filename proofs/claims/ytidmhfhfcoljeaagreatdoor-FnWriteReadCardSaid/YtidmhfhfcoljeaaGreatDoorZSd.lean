/- A part of a proof over the given program: ScD, ScW. Nothing is assumed here. -/
import Derived.Test.YtidmhfhfcoljeaaGreatDoorZSb
import Derived.Test.YtidmhfhfcoljeaaGreatDoorZSc
import Derived.Deep.QuietTactic
import Derived.Test.YtidmhfhfcoljeaaGreatDoorZWg
namespace Go.Proofs.Zip
open Go Go.RowKit
/-! spec.Scan. -/
theorem infoRec : (Tryz.prog.info? 50).map (fun i => (i.zero, i.size, i.bytes)) = some (some (.agg #[.string ⟨#[]⟩, .string ⟨#[]⟩, .string ⟨#[]⟩, .bool false, .int .i64 0, .int .i64 0, .int .i64 0, .int .i64 0, .int .i64 0, .int .i64 0, .int .i64 0, .int .i64 0, .int .i64 0, .int .i64 0, .int .i64 0, .string ⟨#[]⟩]), 16, 160) := by kernel_rfl
theorem sizesRec : (Tryz.prog.info? 50).map (fun i => (i.size, i.zero.map (·.cells.size))) = some (16, some 16) := by kernel_rfl
section
variable {ps : List Pc} {c : List UInt8}
theorem arcP_small (h : PcsOk ps c) : (arcP ps c).length ≤ 4294967294 ∧ (pcsL ps).length + (catL (hsP ps 0)).length ≤ 4294967294 := by
  have h1 := pcsL_ok h.ok
  have h2 := catP_ok h.ok 0
  have h3 := h.len
  have h4 := h.cl
  unfold arcP
  rw [List.length_append, List.length_append, length_endL]
  omega
theorem cenP (h : PcsOk ps c) {k : Nat} (hk : k < ps.length) (w : World) :
    Calls Tryz.prog 48 #[.string (B ((arcP ps c).take ((pcsL ps).length + (catL (hsP ps 0)).length))), .int .i64 ((pcsL ps).length + (catL ((hsP ps 0).take k)).length : Nat)] w fun e w' => e = .returned (.tuple #[.agg (recCells (scanH ps[k].hdr) (pcsL (ps.take k)).length []).toArray, .int .i64 ((pcsL ps).length + (catL ((hsP ps 0).take (k + 1))).length : Nat), .bool true]) ∧ Below w.heap.size w w' := by
  have ho := h.ok _ (List.getElem_mem hk)
  have hs := arcP_small h
  have hle := pcsL_le ps k
  have := cenScan_any _ _ _ _ _ w (cen_pcs ps c hk) (HOk.of ho.hdr) (by omega) (by rw [List.length_take]; omega)
  rw [cen_next ps hk, ← Nat.add_assoc (pcsL ps).length]
  exact this
theorem locAtP (h : PcsOk ps c) {k : Nat} (hk : k < ps.length) (hn : ps[k].loc.name = ps[k].hdr.name ∧ ps[k].loc.method = ps[k].hdr.method) : LocAt (arcP ps c) (pcsL (ps.take k)).length (scanH ps[k].hdr) ps[k].loc.extra.length ∧ (pcsL (ps.take k)).length + 30 + (scanH ps[k].hdr).name.length + ps[k].loc.extra.length + ps[k].data.length ≤ (arcP ps c).length := by
  have ho := h.ok _ (List.getElem_mem hk)
  have hle := pcsL_le ps k
  have hd : (arcP ps c).drop (pcsL (ps.take k)).length = localL ps[k].loc ++ (ps[k].data ++ (ps[k].tail ++ (pcsL (ps.drop (k + 1)) ++ (catL (hsP ps 0) ++ endL ps.length (catL (hsP ps 0)).length (pcsL ps).length c)))) := by
    rw [arcP, List.drop_append_of_le_length hle, pcs_drop ps k hk]
    simp only [List.append_assoc]
  have hm := (HOk.of ho.hdr).method
  rw [← hn.2] at hm
  have hl := congrArg List.length hd
  rw [List.length_drop, List.length_append, List.length_append, length_localL] at hl
  obtain ⟨a1, a2, a3, a4, a5, a6⟩ := LocAt.of hd hm ho.ln ho.lx
  rw [hn.1] at a3 a5 hl
  rw [hn.2] at a4
  exact ⟨⟨a1, a2, a3, a4, a5, a6⟩, by show _ + 30 + ps[k].hdr.name.length + _ + _ ≤ _; omega⟩
theorem locP (h : PcsOk ps c) {k : Nat} (hk : k < ps.length) (hn : ps[k].loc.name = ps[k].hdr.name ∧ ps[k].loc.method = ps[k].hdr.method) (w : World) :
    Calls Tryz.prog 49 #[.string (B (arcP ps c)), .agg (recCells (scanH ps[k].hdr) (pcsL (ps.take k)).length []).toArray] w fun e w' => e = .returned (.bool true) ∧ Below w.heap.size w w' := by
  have ho := h.ok _ (List.getElem_mem hk)
  have hs := arcP_small h
  obtain ⟨a1, a2⟩ := locAtP h hk hn
  exact loc_any _ _ _ _ _ _ w (by omega) a1 ho.packed a2
theorem contP (h : PcsOk ps c) {k : Nat} (hk : k < ps.length) (hn : ps[k].loc.name = ps[k].hdr.name ∧ ps[k].loc.method = ps[k].hdr.method) (w : World) :
    Calls Tryz.prog 50 #[.string (B (arcP ps c)), .agg (recCells (scanH ps[k].hdr) (pcsL (ps.take k)).length []).toArray] w fun e w' => e = .returned (.string (B ps[k].data)) ∧ Below w.heap.size w w' := by
  have ho := h.ok _ (List.getElem_mem hk)
  have hs := arcP_small h
  obtain ⟨a1, a2⟩ := locAtP h hk hn
  have ht := pcText (c := c) k hk (pcsL_le ps k)
  have := cont_any _ _ _ _ _ [] w (by omega) a1 ho.packed a2
  have e : (pcsL (ps.take k)).length + 30 + (scanH ps[k].hdr).name.length + ps[k].loc.extra.length = (pcsL (ps.take k)).length + (30 + ps[k].loc.name.length + ps[k].loc.extra.length) := by
    rw [hn.1]; show _ + 30 + ps[k].hdr.name.length + _ = _; omega
  rw [e, ht, List.take_left] at this
  exact this
end
set_option maxRecDepth 100000 in
set_option maxHeartbeats 8000000 in
theorem scan_any {ps : List Pc} {c : List UInt8} (w : World) (h : PcsOk ps c) (hnm : ∀ p ∈ ps, p.loc.name = p.hdr.name ∧ p.loc.method = p.hdr.method) :
    Calls Tryz.prog 23 #[.string (B (arcP ps c))] w fun e w' => ∃ v, e = .returned (.tuple #[v, .string (B c), .bool true]) ∧ Hid (w'.ownsRow w.heap.size 50 16 v ps.length (recsP ps 0)) ∧ Hid (Below w.heap.size w w') := by
  have hE := h.scan
  have hs := arcP_small h
  have hpn := h.len
  have KC := Lib.hid (fun (k : Nat) (hk : k < ps.length) w' => cenP h hk w')
  have KL := Lib.hid (fun (k : Nat) (hk : k < ps.length) w' => locP h hk (hnm _ (List.getElem_mem hk)) w')
  have KX := Lib.hid (fun (k : Nat) (hk : k < ps.length) w' => contP h hk (hnm _ (List.getElem_mem hk)) w')
  have KZ : Hid ((catL ((hsP ps 0).take 0)).length = 0) := Lib.hid (by simp [catL])
  have KE : Hid ((hsP ps 0).take ps.length = hsP ps 0) := Lib.hid (List.take_of_length_le (by rw [hsP_length]; exact Nat.le_refl _))
  obtain ⟨D, hD⟩ : ∃ D, D = arcP ps c := ⟨_, rfl⟩
  rw [← hD] at hE hs KC KL KX ⊢
  obtain ⟨F, hF⟩ : ∃ F, F = (pcsL ps).length := ⟨_, rfl⟩
  rw [← hF] at hE hs KC
  obtain ⟨Z, hZ⟩ : ∃ Z, Z = (catL (hsP ps 0)).length := ⟨_, rfl⟩
  rw [← hZ] at hE hs KC
  obtain ⟨N, hN⟩ : ∃ N, N = F + Z := ⟨_, rfl⟩
  rw [← hN] at hE hs KC
  have HZ := Lib.hid hZ
  have HNN := Lib.hid hN
  clear hD hF hZ hN h hnm
  obtain ⟨x1, x2, x3, x4, x5, x6, x7, x8, x9, x10⟩ := hE
  have HX := Lib.hid (And.intro x4 x10)
  have hd1 : D.length ≤ 4294967294 := hs.1
  have hcl : c.length ≤ 4294967294 := by omega
  have HA1 := Lib.hid (fun w' => at_any D [80, 75, 5, 6] N w' (by omega) (by omega) (by simp))
  rw [x3] at HA1
  have HN20 : Hid (∀ w', Calls Tryz.prog 47 #[.string (B (List.take 2 (List.drop (N + 20) D)))] w' fun e w'' => e = .returned (.int .i64 c.length) ∧ w' = w'') := Lib.hid fun w' => by rw [← x9]; exact number_any _ w' (by rw [List.length_take]; omega)
  have HN8 : Hid (∀ w', Calls Tryz.prog 47 #[.string (B (List.take 2 (List.drop (N + 8) D)))] w' fun e w'' => e = .returned (.int .i64 ps.length) ∧ w' = w'') := Lib.hid fun w' => by rw [← x5]; exact number_any _ w' (by rw [List.length_take]; omega)
  have HN10 : Hid (∀ w', Calls Tryz.prog 47 #[.string (B (List.take 2 (List.drop (N + 10) D)))] w' fun e w'' => e = .returned (.int .i64 ps.length) ∧ w'' = w') := Lib.hid fun w' => by rw [← x6]; exact (number_any _ w' (by rw [List.length_take]; omega)).mono fun e y h => ⟨h.1, h.2.symm⟩
  have HN12 : Hid (∀ w', Calls Tryz.prog 47 #[.string (B (List.take 4 (List.drop (N + 12) D)))] w' fun e w'' => e = .returned (.int .i64 Z) ∧ w'' = w') := Lib.hid fun w' => by rw [← x7]; exact (number_any _ w' (by rw [List.length_take]; omega)).mono fun e y h => ⟨h.1, h.2.symm⟩
  have HN16 : Hid (∀ w', Calls Tryz.prog 47 #[.string (B (List.take 4 (List.drop (N + 16) D)))] w' fun e w'' => e = .returned (.int .i64 F) ∧ w'' = w') := Lib.hid fun w' => by rw [← x8]; exact (number_any _ w' (by rw [List.length_take]; omega)).mono fun e y h => ⟨h.1, h.2.symm⟩
  have HL := Lib.hid x1
  have HFZ := Lib.hid x2
  clear x2 x3 x4 x5 x6 x7 x8 x9 x10 hs
  have hN22 : N + 22 ≤ D.length := by omega
  clear x1
  go_enter Tryz.func23, Tryz.ntmps23
  go_wp2_with fail
  go_loopw [6] (fun t6 wr => ∃ i : Nat, t6 = .int .i64 i ∧ N ≤ i ∧ i + 22 ≤ D.length ∧ wr.ownsRow w.heap.size 50 16 (.slice (some ⟨w.heap.size, 0, none⟩) 0 0) 0 [] ∧ Below w.heap.size w wr) (fun t6 _ => (intOf t6).toNat - N)
  case atStart => exact ⟨D.length - 22, by go_num, by omega, by omega, ⟨rfl, .inr ⟨_, 0, _, rfl, Nat.le_refl _, heap_alloc_last _ _, Nat.le_refl _, by decide, rfl, rfl⟩⟩, (Below.refl _ _).alloc (Nat.le_refl _) _⟩
  case round =>
    obtain ⟨i, rfl, hi1, hi2, hO, hW⟩ := hrel
    by_cases hi : i = N
    rotate_left
    · have HAF := Lib.hid (at_any D [80, 75, 5, 6] i wr (by omega) (by omega) (by simp))
      rw [HX.out.1 i (by omega)] at HAF
      have HO := Lib.hid (And.intro hO hW)
      clear hO hW
      go_wp2_with (first | (go_at_call 46; refine HAF.out.mono ?_; rintro e y ⟨rfl, rfl⟩))
      exact ⟨⟨i - 1, by go_num, by omega, by omega, HO.out.1, HO.out.2⟩, by simp [intOf]; omega⟩
    · subst hi
      have HO := Lib.hid (And.intro hO hW)
      clear hO hW hi1 hi2
      have hq : (i : Int) + 22 + (c.length : Int) = (D.length : Int) := by have := HL.out; omega
      go_upto_region 7 with (first | (go_at_call 46; refine (HA1.out _).mono ?_; rintro e y ⟨rfl, rfl⟩) | (go_at_call 47; refine (HN20.out _).mono ?_; rintro e y ⟨rfl, rfl⟩))
      have w10 : IntKind.i64.wrap ((i : Int) + 10) = (i : Int) + 10 := by rw [IntKind.wrap_i64]; omega
      have g10 : (0 : Int) ≤ (i : Int) + 10 := by omega
      have l10 : (i : Int) + 10 ≤ (D.length : Int) := by omega
      have t10 : ((i : Int) + 10).toNat = i + 10 := by omega
      have w12 : IntKind.i64.wrap ((i : Int) + 12) = (i : Int) + 12 := by rw [IntKind.wrap_i64]; omega
      have g12 : (0 : Int) ≤ (i : Int) + 12 := by omega
      have l12 : (i : Int) + 12 ≤ (D.length : Int) := by omega
      have t12 : ((i : Int) + 12).toNat = i + 12 := by omega
      have w16 : IntKind.i64.wrap ((i : Int) + 16) = (i : Int) + 16 := by rw [IntKind.wrap_i64]; omega
      have g16 : (0 : Int) ≤ (i : Int) + 16 := by omega
      have l16 : (i : Int) + 16 ≤ (D.length : Int) := by omega
      have t16 : ((i : Int) + 16).toNat = i + 16 := by omega
      have w20 : IntKind.i64.wrap ((i : Int) + 20) = (i : Int) + 20 := by rw [IntKind.wrap_i64]; omega
      have g20 : (0 : Int) ≤ (i : Int) + 20 := by omega
      have l20 : (i : Int) + 20 ≤ (D.length : Int) := by omega
      have t20 : ((i : Int) + 20).toNat = i + 20 := by omega
      have q1 : (i : Int) + 10 ≤ (i : Int) + 12 := by omega
      have q2 : (i : Int) + 12 ≤ (i : Int) + 16 := by omega
      have q3 : (i : Int) + 16 ≤ (i : Int) + 20 := by omega
      refine wp_region_quiet_lit (by kernel_rfl) (by kernel_rfl) ?_
      repeat (quiet_step (fail))
      refine wpQuiet_step (fun K hK => ?_)
      go_simp
      refine ⟨_, fun n => Calls.quiet_of_same (HN10.out _), hK _ ?_⟩
      clear hK K
      repeat (quiet_step (fail))
      refine wpQuiet_step (fun K hK => ?_)
      go_simp
      refine ⟨_, fun n => Calls.quiet_of_same (HN12.out _), hK _ ?_⟩
      clear hK K
      repeat (quiet_step (fail))
      refine wpQuiet_step (fun K hK => ?_)
      go_simp
      refine ⟨_, fun n => Calls.quiet_of_same (HN16.out _), hK _ ?_⟩
      clear hK K
      repeat (quiet_step (fail))
      refine wpQuiet_nil ?_
      intro wx hw'
      obtain ⟨nq, rfl⟩ := hw'
      clear w10 g10 l10 t10 w12 g12 l12 t12 w16 g16 l16 t16 w20 g20 l20 t20 q1 q2 q3 hq
      have hfz : (F : Int) + (Z : Int) = (i : Int) := by have := HFZ.out; omega
      have HO7 : Hid ((wr.drewN nq).ownsRow w.heap.size 50 16 (.slice (some ⟨w.heap.size, 0, none⟩) 0 0) 0 [] ∧ Below w.heap.size w (wr.drewN nq)) := Lib.hid ⟨ownsRow_fr HO.out.1 ((Fr.refl (fun _ => False) wr).drewN nq) (fun _ h => h.elim), HO.out.2.trans (((Fr.refl (fun _ => False) wr).drewN nq).below HO.out.2.size (fun _ _ => id))⟩
      generalize wr.drewN nq = w7 at HO7 ⊢
      clear HO
      go_wp2_with (first | (go_at_call 47; refine (HN8.out _).mono ?_; rintro e y ⟨rfl, rfl⟩))
      go_loopw [5, 7, 9] (fun t5 t7 t9 wr => ∃ (k j a : Nat), t7 = .int .i64 j ∧ t9 = .int .i64 a ∧ k + j = ps.length ∧ Hid (a = F + (catL ((hsP ps 0).take k)).length) ∧ Hid (wr.ownsRow w.heap.size 50 16 t5 k (recsP (ps.take k) 0)) ∧ Hid (Below w.heap.size w wr)) (fun _ t7 _ _ => (intOf t7).toNat)
      case atStart => exact ⟨0, ps.length, F, rfl, rfl, Nat.zero_add _, Lib.hid (by have := KZ.out; omega), Lib.hid HO7.out.1, Lib.hid HO7.out.2⟩
      case round =>
        obtain ⟨k, j, a, rfl, rfl, hkj, hA, hO, hW⟩ := hrel
        obtain ⟨vx, vcap, hvf⟩ := own_form hO.out
        subst hvf
        by_cases hj : j = 0
        · subst hj
          obtain rfl : k = ps.length := by omega
          have ha : a = i := by have h1 := hA.out; have h2 := KE.out; have h3 := HZ.out; have h4 := HFZ.out; rw [h2] at h1; omega
          subst ha
          have l22 : (a : Int) + 22 ≤ (D.length : Int) := by omega
          have t22 : ((a : Int) + 22).toNat = a + 22 := by omega
          have w22 : IntKind.i64.wrap ((a : Int) + 22) = (a : Int) + 22 := by rw [IntKind.wrap_i64]; omega
          have g22 : (0 : Int) ≤ (a : Int) + 22 := by omega
          go_upto_region 18 with fail
          go_quiet (fail)
          have FO : Hid ((wr.drewN nq).ownsRow w.heap.size 50 16 (.slice vx ps.length vcap) ps.length (recsP ps 0) ∧ Below w.heap.size w (wr.drewN nq)) := Lib.hid ⟨by
            have := ownsRow_fr hO.out ((Fr.refl (fun _ => False) wr).drewN nq) (fun _ h => h.elim)
            rwa [List.take_of_length_le (Nat.le_refl _)] at this, hW.out.trans (((Fr.refl (fun _ => False) wr).drewN nq).below hW.out.size (fun _ _ => id))⟩
          clear l22 t22 w22 g22
          have HTL := Lib.hid HX.out.2
          go_wp2
          go_ret3
          refine ⟨_, ?_, Lib.hid FO.out.1, Lib.hid FO.out.2⟩
          show _ = Ending.returned (.tuple #[.slice vx ps.length vcap, .string (B c), .bool true])
          rw [← HTL.out]
          rfl
        · obtain ⟨j, rfl⟩ : ∃ n, j = n + 1 := ⟨j - 1, by omega⟩
          have hk : k < ps.length := by omega
          obtain ⟨a2, ha2⟩ : ∃ a2, a2 = F + (catL ((hsP ps 0).take (k + 1))).length := ⟨_, rfl⟩
          have HC := Lib.hid (KC.out k hk)
          rw [← hA.out, ← ha2] at HC
          have HLc := Lib.hid (KL.out k hk)
          have HXc := Lib.hid (KX.out k hk)
          have hsn := recsP_take ps k hk
          have HA2 := Lib.hid ha2
          generalize ps[k].hdr = hh at HC HLc HXc hsn
          generalize ps[k].data = dd at HXc hsn
          generalize (pcsL (ps.take k)).length = oo at HC HLc HXc hsn
          have HSN := Lib.hid hsn
          have hNl : (i : Int) ≤ (D.length : Int) := by omega
          clear hsn ha2 KC KL KX hA
          go_wp2_with fail
          refine (HC.out _).mono ?_
          rintro e w8 ⟨rfl, hb8⟩
          have HW8 := Lib.hid (below_up hW.out hb8)
          have HO8 := Lib.hid (ownsRow_below hO.out hb8)
          clear hb8 HC
          go_wp2_with (first | (refine wpList_alloc_store 50 _ _ (recCells (scanH hh) oo []) rfl rfl rfl rfl rfl rfl sizesRec rfl ?_) | (refine wpList_load_mid rfl 50 _ rfl w8.heap.size 0 rfl (recCells (scanH hh) oo []) _ (rangeAt_new _ _ _) Tryz.underlying50 rfl sizeRec ?_))
          refine (HLc.out _).mono ?_
          rintro e w9 ⟨rfl, hb9⟩
          have hq8 : w.heap.size ≤ w8.heap.size := HW8.out.size
          have b9 : Blk w9 w8.heap.size (recCells (scanH hh) oo []).toArray 50 := below_blk hb9 (Blk.new _ _ _)
          have HW9 := Lib.hid (below_up (HW8.out.alloc hq8 (.cells (recCells (scanH hh) oo []).toArray 50)) hb9)
          have HO9 := Lib.hid (ownsRow_below (HO8.out.alloc (.cells (recCells (scanH hh) oo []).toArray 50)) hb9)
          have hr9 : w9.rangeAt w8.heap.size 0 (recCells (scanH hh) oo []) := b9.range rfl
          have HB9 := Lib.hid b9
          clear hb9 b9 HLc
          go_wp2_with (first | (refine wpList_load_mid rfl 50 _ rfl w8.heap.size 0 rfl (recCells (scanH hh) oo []) _ hr9 Tryz.underlying50 rfl sizeRec ?_))
          refine (HXc.out _).mono ?_
          rintro e w10 ⟨rfl, hb10⟩
          have b10 := below_blk hb10 HB9.out
          have hown10 := ownsRow_below HO9.out hb10
          have hbw10 := below_up HW9.out hb10
          have c15 : w10.cell? ⟨w8.heap.size, 15, none⟩ = some (.string (B [])) := b10.cell 15
          have f15 : w10.frozen? ⟨w8.heap.size, 15, none⟩ = false := b10.frozen 15
          have b11 := b10.set 15 (.string (B dd))
          have hr11 : (w10.setCell ⟨w8.heap.size, 15, none⟩ (.string (B dd))).rangeAt w8.heap.size 0 (recCells (scanH hh) oo dd) := b11.range rfl
          have hown11 := ownsRow_fr hown10 ((Fr.refl (· = w8.heap.size) w10).setCell (fun _ => rfl) (a := ⟨w8.heap.size, 15, none⟩) (.string (B dd))) (fun b hb e => by subst hb; have := (HO8.out.lt _ e.symm).2; omega)
          have hbw11 : Below w.heap.size w (w10.setCell ⟨w8.heap.size, 15, none⟩ (.string (B dd))) := hbw10.setCell (by show w.heap.size ≤ w8.heap.size; exact hq8) _
          clear hb10 b10 hown10 hbw10 HXc b11 hr9
          go_upto_region 16 with fail
          generalize w10.setCell ⟨w8.heap.size, 15, none⟩ (.string (B dd)) = w11 at hr11 hown11 hbw11 ⊢
          clear c15 f15
          go_wp2_with (first | (refine wpList_load_mid rfl 50 _ rfl w8.heap.size 0 rfl (recCells (scanH hh) oo dd) _ hr11 Tryz.underlying50 rfl sizeRec ?_) | (at_builtin; refine wpList_app1 (news := recCells (scanH hh) oo dd) rfl _ _ 46 rfl w.heap.size Tryz.underlying46 infoRec rfl (by decide) _ _ _ rfl hown11 rfl rfl ?c1 ?c2 (by decide) hbw11 (Nat.le_refl _) hbw11.size ?_))
          case c1 => simp [Value.oneCell']
          case c2 => omega
          intro v' w' hown' hb' _
          obtain ⟨vx2, vcap2, hvf2⟩ := own_form hown'
          subst hvf2
          have FO := Lib.hid (And.intro hown' hb')
          clear hown' hb' hr11 hown11 hbw11
          go_wp2
          exact ⟨⟨k + 1, j, a2, by go_num, rfl, by omega, HA2, Lib.hid (by rw [HSN.out]; exact FO.out.1), Lib.hid FO.out.2⟩, by simp [intOf]⟩
end Go.Proofs.Zip
namespace Go.Proofs.Zip
open Go Go.RowKit
/-! laws.writes. -/
theorem wrOk_e0 : ∀ e ∈ [e0], WrOk e := by
  intro e he
  simp at he
  subst he
  exact ⟨by decide, by decide, by decide, by decide, by decide⟩
set_option maxRecDepth 100000 in
theorem once_e0 : endsL (arcP (wrPs [e0]) []) = 1 := by decide +kernel
theorem pcs_e0 : PcsOk (wrPs [e0]) [] := by
  refine ⟨fun p hp => ?_, by decide, by decide, once_e0⟩
  obtain ⟨e, he, rfl⟩ := List.mem_map.1 hp
  exact wrP_ok (wrOk_e0 e he)
theorem wrP_same (e : E) : (wrP e).loc.name = (wrP e).hdr.name ∧ (wrP e).loc.method = (wrP e).hdr.method := by
  unfold wrP
  split <;> exact ⟨rfl, rfl⟩
set_option maxRecDepth 100000 in
set_option maxHeartbeats 4000000 in
theorem writes_any {N0 : Nat} {E0 : Errs} (w : World) (hE : Env w N0 E0) : Calls Tryz.prog 24 #[] w fun e w' => e = .returned (.bool true) ∧ Below w.heap.size w w' := by
  go_enter Tryz.func24, Tryz.ntmps24
  have HE := Lib.hid hE
  clear hE
  go_wp2_with fail
  have hli : IsList (w.alloc (.cells e0.cells.toArray 38)) (.slice (some ⟨w.heap.size, 0, none⟩) 1 1) [e0] := ⟨_, 1, rfl, fun _ => ⟨w.heap.size, 0, rfl, by simp, fun k e he => by
    cases k with
    | zero => simp at he; subst he; simpa using rangeAt_new w e0.cells 38
    | succ k => simp at he⟩⟩
  have hb0 : Below w.heap.size w (w.alloc (.cells e0.cells.toArray 38)) := (Below.refl _ _).alloc (Nat.le_refl _) _
  have HW := Lib.hid (write_any (N0 := N0) (E0 := E0) [e0] [] _ _ (HE.out.below hb0) hli wrOk_e0 (by decide) (by decide))
  have HB0 := Lib.hid hb0
  clear hli hb0
  refine HW.out.mono ?_
  rintro e w1 ⟨rfl, hb1⟩
  have HB1 := Lib.hid (below_up HB0.out hb1.out)
  have HS := Lib.hid (scan_any w1 pcs_e0 (fun p hp => by
    obtain ⟨e, _, rfl⟩ := List.mem_map.1 hp
    exact wrP_same e))
  clear hb1 HW HB0 HE
  obtain ⟨S, hS⟩ : ∃ S, S = arcP (wrPs [e0]) [] := ⟨_, rfl⟩
  have hne : S.isEmpty = false := by rw [hS]; decide +kernel
  rw [← hS] at HS ⊢
  clear hS
  go_wp2_with fail
  refine HS.out.mono ?_
  rintro e w2 ⟨v, rfl, _, hb2⟩
  have HB2 := Lib.hid (below_up HB1.out hb2.out)
  clear hb2 HS HB1
  go_wp2
  go_ret
  exact ⟨rfl, HB2.out⟩
end Go.Proofs.Zip
