/- A part of a proof over the given program: Ht, Ro, Sm. Nothing is assumed here. -/
import Derived.Test.YtiipmnaonidojaaGreatDoorZT
import Derived.Test.YtiipmnaonidojaaGreatDoorZQ
import Derived.Deep.RegionLaw
import Derived.Deep.AppendLies
namespace Go.Proofs.Zip
open Go Go.RowKit
/-- What impl.header tells of a header, with what was seen of its names. -/
def told (h : H) (non : Bool) : H := { h with non := non }
set_option maxRecDepth 100000 in
set_option maxHeartbeats 4000000 in
theorem tell_any (f d o cap : Nat) (h : H) (non : Bool) (t0 t1 t2 zr zipr : Value) (off : Int) (w : World) (hf : Blk w f (fileTexts h non t0 t1 t2 (.slice (some ⟨d, o, none⟩) h.extra.length cap) zr zipr off) 90) (hx : w.rangeAt d o (u8s h.extra)) (hd : d < w.heap.size) (hok : HOk h) :
    Calls Tryz.prog 42 #[.pointer (some ⟨f, 0, none⟩)] w fun e w' => e = .returned (.agg (told h non).cells.toArray) ∧ Below w.heap.size w w' := by
  obtain ⟨w1, hw1⟩ : ∃ w1, w1 = w.alloc (.cells #[.string ⟨#[]⟩, .string ⟨#[]⟩, .string ⟨#[]⟩, .bool false, .int .i64 0, .int .i64 0, .int .i64 0, .int .i64 0, .int .i64 0, .int .i64 0, .int .i64 0, .int .i64 0, .int .i64 0, .int .i64 0] 26) := ⟨_, rfl⟩
  have hf1 : Blk w1 f (fileTexts h non t0 t1 t2 (.slice (some ⟨d, o, none⟩) h.extra.length cap) zr zipr off) 90 := by rw [hw1]; exact hf.alloc _
  have hb1 : Blk w1 w.heap.size #[.string ⟨#[]⟩, .string ⟨#[]⟩, .string ⟨#[]⟩, .bool false, .int .i64 0, .int .i64 0, .int .i64 0, .int .i64 0, .int .i64 0, .int .i64 0, .int .i64 0, .int .i64 0, .int .i64 0, .int .i64 0] 26 := by rw [hw1]; exact Blk.new _ _ _
  have hx1 : w1.rangeAt d o (u8s h.extra) := by rw [hw1]; exact rangeAt_below ((Below.refl w.heap.size w).alloc (Nat.le_refl _) _) hx hd
  have c0 : w1.cell? ⟨f, 0, none⟩ = some (.string (B h.name)) := hf1.cell 0
  have c1 : w1.cell? ⟨f, 1, none⟩ = some (.string (B h.comment)) := hf1.cell 1
  have c2 : w1.cell? ⟨f, 2, none⟩ = some (.bool non) := hf1.cell 2
  have c3 : w1.cell? ⟨f, 3, none⟩ = some (.int .u16 h.creator) := hf1.cell 3
  have c4 : w1.cell? ⟨f, 4, none⟩ = some (.int .u16 h.reader) := hf1.cell 4
  have c5 : w1.cell? ⟨f, 5, none⟩ = some (.int .u16 h.flags) := hf1.cell 5
  have c6 : w1.cell? ⟨f, 6, none⟩ = some (.int .u16 h.method) := hf1.cell 6
  have c10 : w1.cell? ⟨f, 10, none⟩ = some (.int .u16 h.time) := hf1.cell 10
  have c11 : w1.cell? ⟨f, 11, none⟩ = some (.int .u16 h.date) := hf1.cell 11
  have c12 : w1.cell? ⟨f, 12, none⟩ = some (.int .u32 h.crc) := hf1.cell 12
  have c15 : w1.cell? ⟨f, 15, none⟩ = some (.int .u64 h.packed) := hf1.cell 15
  have c16 : w1.cell? ⟨f, 16, none⟩ = some (.int .u64 h.size) := hf1.cell 16
  have c17 : w1.cell? ⟨f, 17, none⟩ = some (.slice (some ⟨d, o, none⟩) h.extra.length cap) := hf1.cell 17
  have c18 : w1.cell? ⟨f, 18, none⟩ = some (.int .u32 h.ext) := hf1.cell 18
  have HB := Lib.hid hb1
  have hcv : (convert 66 9 (.slice (some ⟨d, o, none⟩) h.extra.length cap)).run Tryz.prog w1.drew = .ok (.string (B h.extra)) w1.drew :=
    run_convert_bytes_back w1.drew _ _ _ ⟨d, o, none⟩ cap h.extra Tryz.underlying66 Tryz.underlying5 Tryz.underlying9 fun j hj => by
      have := hx1 j (.int .u8 (h.extra[j].toNat : Int)) (by simp [u8s, hj])
      rw [add_at]
      exact this
  have HW := Lib.hid hw1
  obtain ⟨o1, o2, o3, o4, o5, o6, o7, o8, o9, o10, o11, o12, o13⟩ := hok
  have e1 : IntKind.i64.wrap h.creator = h.creator := by rw [IntKind.wrap_i64]; omega
  have e2 : IntKind.i64.wrap h.reader = h.reader := by rw [IntKind.wrap_i64]; omega
  have e3 : IntKind.i64.wrap h.flags = h.flags := by rw [IntKind.wrap_i64]; omega
  have e4 : IntKind.i64.wrap h.method = h.method := by rw [IntKind.wrap_i64]; omega
  have e5 : IntKind.i64.wrap h.time = h.time := by rw [IntKind.wrap_i64]; omega
  have e6 : IntKind.i64.wrap h.date = h.date := by rw [IntKind.wrap_i64]; omega
  have e7 : IntKind.i64.wrap h.crc = h.crc := by rw [IntKind.wrap_i64]; omega
  have e8 : IntKind.i64.wrap h.packed = h.packed := by rw [IntKind.wrap_i64]; omega
  have e9 : IntKind.i64.wrap h.size = h.size := by rw [IntKind.wrap_i64]; omega
  have e10 : IntKind.i64.wrap h.ext = h.ext := by rw [IntKind.wrap_i64]; omega
  clear hf hx hf1 hb1 hx1 hw1 hd
  go_enter Tryz.func42, Tryz.ntmps42
  go_upto_region 1 with fail
  rw [← HW.out]
  refine wp_still_tail 68 (by kernel_rfl) (by kernel_rfl) ?_
  simp only [List.append_eq, List.cons_append, List.nil_append, List.take_succ_cons, List.take_zero, List.drop_succ_cons, List.drop_zero]
  repeat still_step
  refine wpStill_nil ?_
  refine wpList_store_blk rfl 26 _ _ rfl w.heap.size _ (told h non).cells.toArray 26 (HB.out : Blk w1.drew w.heap.size _ 26) rfl rfl sizeHdr rfl rfl ?_
  intro hst hfr
  have hbw : Below w.heap.size w (w1.drew.setCells w.heap.size 0 (told h non).cells.toArray.toList) := by
    have h1 : Below w.heap.size w w1 := by rw [HW.out]; exact (Below.refl w.heap.size w).alloc (Nat.le_refl _) _
    exact h1.drew.trans (hfr.below h1.size (by rintro i hi rfl; omega))
  have HST := Lib.hid hst
  have HBW := Lib.hid hbw
  clear hst hfr hbw HB hcv HW
  generalize w1.drew.setCells w.heap.size 0 (told h non).cells.toArray.toList = w2 at *
  go_wp2
  (try simp only [Exit.inBlock, Exit.then])
  refine bodyPost_ret (results_cell_row rfl _ _ w.heap.size 26 _ _ _ rfl HST.out Tryz.underlying26 rfl sizeHdr) rfl ⟨rfl, HBW.out⟩
end Go.Proofs.Zip
namespace Go.Proofs.Zip
open Go Go.RowKit
theorem infoHdr : (Tryz.prog.info? 26).map (fun i => (i.zero, i.size, i.bytes)) = some (some (.agg #[.string ⟨#[]⟩, .string ⟨#[]⟩, .string ⟨#[]⟩, .bool false, .int .i64 0, .int .i64 0, .int .i64 0, .int .i64 0, .int .i64 0, .int .i64 0, .int .i64 0, .int .i64 0, .int .i64 0, .int .i64 0]), 14, 136) := by kernel_rfl
theorem sizesLst : (Tryz.prog.info? 45).map (fun i => (i.size, i.zero.map (·.cells.size))) = some (3, some 3) := by kernel_rfl
/-- The cells of a row of headers. -/
def hrows (l : List H) : List Value := l.flatMap H.cells
theorem hrows_snoc (l : List H) (h : H) : hrows (l ++ [h]) = hrows l ++ h.cells := by simp [hrows]
/-- What is told of a file. -/
def toldOf (x : H × Nat) : H := told x.1 (nonU x.1)
theorem Arc.told {w wr : World} {rb a base C0 C : Nat} {comment : List UInt8} {files : Value} {ps : List Value} {hs : List (H × Nat)} (h : Arc w rb a base C0 C comment files ps hs) {k : Nat} (hk : k < hs.length) (hb : Below w.heap.size w wr) :
    ∃ g cap f d o c t0 t1 t2 zr zipr off, files = .slice (some ⟨g, 0, none⟩) hs.length cap ∧ wr.cell? ⟨g, k, none⟩ = some (.pointer (some ⟨f, 0, none⟩)) ∧ Blk wr f (fileTexts hs[k].1 (nonU hs[k].1) t0 t1 t2 (.slice (some ⟨d, o, none⟩) hs[k].1.extra.length c) zr zipr off) 90 ∧ wr.rangeAt d o (u8s hs[k].1.extra) ∧ d < wr.heap.size := by
  obtain ⟨g, cap, p, h1, h2, f, t0, t1, t2, xv, rfl, h3, _, _, d, o, c, rfl, _, h4, _, h5, _⟩ := h.elem (List.getElem?_eq_getElem hk)
  have hg : g < w.heap.size := (ownBlock_ge h.own g (by rw [h1]; rfl)).2
  exact ⟨g, cap, f, d, o, c, t0, t1, t2, _, _, _, h1, keep hb hg h2, below_blk hb h3, rangeAt_below hb h5 h4, Nat.lt_of_lt_of_le h4 hb.size⟩
/-- 'append(out.Files, h)', as a step of a region that draws. -/
theorem step_app_hdr {ops : Array Oper} {o : Oper} {a : Act} {w2 : World} {K : Act → World → Prop} {Q : Exit → Act → World → Prop} {X : Prop} (ob : Nat) (v : Value) (kk : Nat) (xs cells : List Value) (s x : Operand) (hgd : o.guard = none)
    (ho : o.op = .call { callee := .builtin .append, args := #[s, x], argTypes := #[43, 43] }) (hs : a.eval s = v) (hx : a.eval x = .slice (some ⟨w2.heap.size, 0, none⟩) 1 1) (hown : w2.ownsRow (ob + 1) 26 14 v kk xs)
    (hl : cells.length = 14) (h1 : ∀ u ∈ cells, u.oneCell' = true) (hk : kk < 65000) (hz : ob + 1 ≤ w2.heap.size)
    (h : ∀ g cap w3, w3.ownsRow (ob + 1) 26 14 (.slice (some ⟨g, 0, none⟩) (kk + 1) cap) (kk + 1) (xs ++ cells) → Below (ob + 1) w2 w3 → K (a.put o.dst (.slice (some ⟨g, 0, none⟩) (kk + 1) cap)) w3) :
    if Region.wanted o (yielded ops a.tmps) = true then Oper.wp Tryz.prog o a (w2.alloc (.cells cells.toArray 26)) K Q else X := by
  obtain ⟨i0, hi, hz0, hz1, hz2⟩ := info_parts infoHdr
  have hz3 : (w2.alloc (.cells cells.toArray 26)).heap.size = w2.heap.size + 1 := World.size_alloc _ _
  refine step_append_lies _ hgd s x 43 ho (ob + 1) 26 i0 _ 14 136 Tryz.underlying43 hi hz0 hz1 hz2 rfl (by decide) v kk xs hs (hown.alloc _) ⟨w2.heap.size, 0, none⟩ 1 1 cells hx (by rw [hl]) ?_ h1 (by decide) (by unfold maxLen; omega) (by omega) (by omega) _ rfl ?_
  · have := World.news_of_block (heap_alloc_last w2 (.cells cells.toArray 26))
    simpa using this
  · intro g cap w3 h3 hgr _ _
    exact h g cap w3 h3 (Below.grown ((Below.refl (ob + 1) w2).alloc (by omega) _) hgr (by omega) (fun k hk => (hown.lt k hk).1))
/-- A listing that is ok. -/
def IsOk (comment : List UInt8) (l : List H) (w : World) (e : Ending) (w' : World) : Prop := ∃ v, e = .returned (.agg #[.bool true, .string (B comment), v]) ∧ Hid (w'.ownsRow w.heap.size 26 14 v l.length (hrows l)) ∧ Hid (Below w.heap.size w w')
set_option maxRecDepth 100000 in
set_option maxHeartbeats 4000000 in
theorem readOk_any (base b k N0 : Nat) (D tl : List UInt8) (hs : List (H × Nat)) (E : Errs) (w : World) (hE : Env w N0 E) (ht : ArcText D b k base hs tl) (hc : hs.length = n2 D (D.length - b + k + 10)) :
    Calls Tryz.prog 28 #[.string (B D)] w (IsOk ((D.drop (D.length - b + k + 22)).take (n2 D (D.length - b + k + 20))) (hs.map toldOf) w) := by
  have hf0 : Fr (fun _ => False) w (readW D w) := ((Fr.refl _ _).alloc _).alloc _
  have hle := hE.le
  have hcnt := ht.cnt
  have ha : IsText (readW D w) (w.heap.size + 1) D := by
    have := Blk.new (w.alloc (.cells #[.bool false, .string ⟨#[]⟩, .slice none 0 0] 45)) #[.string (B D), .int .i64 0, .int .i64 (-1)] 118
    rwa [World.size_alloc] at this
  have hr0 : Blk (readW D w) w.heap.size #[.bool false, .string ⟨#[]⟩, .slice none 0 0] 45 := (((Fr.refl (fun _ => False) (w.alloc _)).alloc _).blk (Blk.new _ _ _) id)
  have HOKS := Lib.hid ht.hok
  obtain ⟨comment, hcm⟩ : ∃ c, c = (D.drop (D.length - b + k + 22)).take (n2 D (D.length - b + k + 20)) := ⟨_, rfl⟩
  have HN := Lib.hid (newZip_any (w.heap.size + 1) base b k N0 D tl hs E _ (hE.fr hf0 (fun _ h => h.elim)) ha (by omega) ht)
  rw [← hcm] at HN ⊢
  have HC := Lib.hid hc
  have HR0 := Lib.hid hr0
  have HF0 := Lib.hid hf0
  clear hE ht hc hcm ha hr0 hf0
  go_enter Tryz.func28, Tryz.ntmps28
  go_wp2_with (go_at_call 41; refine (newText_any D _).mono ?_; rintro e w1 ⟨rfl, rfl⟩)
  refine HN.out.mono ?_
  rintro e w1 (⟨_, rb, rfl, files, ps, C0, C, hA⟩ | ⟨hn, _⟩)
  · have hb1 := hA.out.2.2.2.2
    have hr := hA.out.1.rdr
    obtain ⟨fx, fcap, hfm⟩ := own_form hA.out.1.own
    rw [hfm] at hr
    have c1 : w1.cell? ⟨rb, 1, none⟩ = some (.slice fx hs.length fcap) := hr.cell 1
    have c2 : w1.cell? ⟨rb, 2, none⟩ = some (.string (B comment)) := hr.cell 2
    have HFM := Lib.hid hfm
    have HR1 := Lib.hid (below_blk hb1 HR0.out)
    have HB1 : Hid (Below w.heap.size w w1) := Lib.hid ((HF0.out.trans2 (Fr.of_below (S := fun _ => False) hb1) (U := fun _ => False) (fun _ h => h) (fun _ h => h)).below (Nat.le_refl _) (fun _ _ h => h))
    have hlt1 : rb < w1.heap.size := hr.lt
    have HA1 := Lib.hid hA.out.1
    clear hA hb1 hr HN HR0 HF0 HC hfm
    go_wp2_with (first | (refine wpList_alloc_store 45 _ _ [.bool true, .string (B comment), .slice none 0 0] rfl rfl rfl rfl rfl rfl sizesLst rfl ?_))
    have hob1 : w1.heap.size < (w1.alloc (.cells [Value.bool true, Value.string (B comment), Value.slice none 0 0].toArray 45)).heap.size := by rw [World.size_alloc]; omega
    go_loopw [30] (fun t30 wr => ∃ (kk : Nat) (v : Value), t30 = .int .i64 kk ∧ kk ≤ hs.length ∧ Hid (Blk wr w1.heap.size #[.bool true, .string (B comment), v] 45) ∧ Hid (wr.ownsRow (w1.heap.size + 1) 26 14 v kk (hrows ((hs.take kk).map toldOf))) ∧ Hid (Below w1.heap.size w1 wr)) (fun t30 _ => hs.length - (intOf t30).toNat)
    case atStart => exact ⟨0, .slice none 0 0, rfl, Nat.zero_le _, Lib.hid (Blk.new _ _ _), Lib.hid (World.ownsRow_nil _ _ _ _), Lib.hid ((Below.refl _ _).alloc (Nat.le_refl _) _)⟩
    case round =>
      obtain ⟨kk, v, rfl, hk, hB, hO, hW⟩ := hrel
      by_cases hlt : kk < hs.length
      · obtain ⟨g, cap, f, d, o, cc, t0, t1, t2, zr, zipr, off, hfl, hcell, hfb, hx, hd⟩ := HA1.out.told hlt hW.out
        rw [HFM.out] at hfl
        cases hfl
        have hko : HOk hs[kk].1 := HOk.of (HOKS.out _ (List.getElem_mem hlt)).1
        have hsn : hrows ((hs.take (kk + 1)).map toldOf) = hrows ((hs.take kk).map toldOf) ++ (told hs[kk].1 (nonU hs[kk].1)).cells := by
          rw [List.take_succ_eq_append_getElem hlt, List.map_append]; exact hrows_snoc _ _
        generalize hs[kk].1 = h at hfb hx hko hsn
        have HSN := Lib.hid hsn
        have HFB := Lib.hid hfb
        have HX := Lib.hid hx
        have hd2 : wr.cell? ⟨w1.heap.size, 2, none⟩ = some v := hB.out.cell 2
        have hf2 : wr.frozen? ⟨w1.heap.size, 2, none⟩ = false := hB.out.frozen 2
        have HTELL := Lib.hid (tell_any f d o cc h (nonU h) t0 t1 t2 zr zipr off wr.drew HFB.out HX.out hd hko)
        have hobr : w1.heap.size < wr.heap.size := hB.out.lt
        clear hsn hfb hx hko hd
        go_upto_region 8 with fail
        have HW2 : Hid (∀ w2, Below wr.drew.heap.size wr.drew w2 → Blk w2 w1.heap.size #[.bool true, .string (B comment), v] 45 ∧ w2.ownsRow (w1.heap.size + 1) 26 14 v kk (hrows ((hs.take kk).map toldOf)) ∧ Below w1.heap.size w1 w2 ∧ w1.heap.size + 1 ≤ w2.heap.size) := Lib.hid fun w2 h2 => by
          have h3 : Below wr.heap.size wr w2 := below_up (Below.refl _ _).drew h2
          exact ⟨below_blk h3 hB.out, ownsRow_below hO.out h3, below_up hW.out h3, Nat.le_trans hobr h3.size⟩
        obtain ⟨vx, vcap, hvf⟩ := own_form hO.out
        subst hvf
        have HKK : Hid (kk < 65000) := Lib.hid (by omega)
        have HONE : Hid (∀ u ∈ (told h (nonU h)).cells, u.oneCell' = true) := Lib.hid (by simp [Value.oneCell'])
        go_region_law ((first
          | (go_simp; go_at_call 42; refine HTELL.out.mono ?_; rintro e w2 ⟨rfl, hb2⟩; dsimp only; obtain ⟨B2, O2, W2, Z2⟩ := HW2.out w2 hb2; have e2 : w2.cell? ⟨w1.heap.size, 2, none⟩ = some (.slice vx kk vcap) := B2.cell 2; have e2a : ∀ o, (w2.alloc o).cell? ⟨w1.heap.size, 2, none⟩ = some (.slice vx kk vcap) := (fun o => by rw [← e2]; exact ((Below.refl w2.heap.size w2).alloc (Nat.le_refl _) o).cell (p := ⟨w1.heap.size, 2, none⟩) Z2); have f2 : w2.frozen? ⟨w1.heap.size, 2, none⟩ = false := B2.frozen 2; have B2 := Lib.hid B2; have O2 := Lib.hid O2; have W2 := Lib.hid W2; clear hb2)
          | (refine step_app_hdr w1.heap.size _ kk _ _ _ _ rfl rfl rfl rfl O2.out rfl HONE.out HKK.out Z2 ?_; intro g2 cap2 w3 hown3 hb3; have e3 : w3.cell? ⟨w1.heap.size, 2, none⟩ = some (.slice vx kk vcap) := (by rw [hb3.cell (p := ⟨w1.heap.size, 2, none⟩) (Nat.lt_succ_self _)]; exact e2); have f3 : w3.frozen? ⟨w1.heap.size, 2, none⟩ = false := (by rw [hb3.frozen (p := ⟨w1.heap.size, 2, none⟩) (Nat.lt_succ_self _)]; exact f2); have O3 := Lib.hid hown3; have B3 := Lib.hid hb3; clear hown3 hb3)))
        all_goals (
          go_wp2_with fail
          have hB3 : Blk w3 w1.heap.size #[.bool true, .string (B comment), .slice vx kk vcap] 45 := by rw [Blk, B3.out.block _ (Nat.lt_succ_self _)]; exact B2.out
          refine ⟨⟨kk + 1, _, by go_num, by omega, Lib.hid (hB3.set 2 _), Lib.hid ?_, Lib.hid ((W2.out.trans (B3.out.mono (Nat.le_succ _))).setCell (Nat.le_refl _) _)⟩, by simp [intOf]; omega⟩
          rw [HSN.out]
          exact ownsRow_fr O3.out ((Fr.refl (· = w1.heap.size) w3).setCell (fun _ => rfl) _) (fun b hb e => by subst hb; have := (O3.out.lt _ e.symm).1; omega))
      · obtain rfl : kk = hs.length := by omega
        obtain ⟨vx, vcap, hvf⟩ := own_form hO.out
        subst hvf
        have hR := below_blk hW.out HR1.out
        have d0 : wr.cell? ⟨w1.heap.size, 0, none⟩ = some (.bool true) := hB.out.cell 0
        have d1 : wr.cell? ⟨w1.heap.size, 1, none⟩ = some (.string (B comment)) := hB.out.cell 1
        have d2 : wr.cell? ⟨w1.heap.size, 2, none⟩ = some (.slice vx hs.length vcap) := hB.out.cell 2
        have r0 : wr.cell? ⟨w.heap.size, 0, none⟩ = some (.bool false) := hR.cell 0
        have r1 : wr.cell? ⟨w.heap.size, 1, none⟩ = some (.string ⟨#[]⟩) := hR.cell 1
        have r2 : wr.cell? ⟨w.heap.size, 2, none⟩ = some (.slice none 0 0) := hR.cell 2
        have f0 : wr.frozen? ⟨w.heap.size, 0, none⟩ = false := hR.frozen 0
        have f1 : wr.frozen? ⟨w.heap.size, 1, none⟩ = false := hR.frozen 1
        have f2 : wr.frozen? ⟨w.heap.size, 2, none⟩ = false := hR.frozen 2
        have HRR := Lib.hid (((hR.set 0 (.bool true)).set 1 (.string (B comment))).set 2 (.slice vx hs.length vcap))
        have hbw : Below w.heap.size w wr := below_up HB1.out hW.out
        have HBW : Hid (Below w.heap.size w (((wr.setCell ⟨w.heap.size, 0, none⟩ (.bool true)).setCell ⟨w.heap.size, 1, none⟩ (.string (B comment))).setCell ⟨w.heap.size, 2, none⟩ (.slice vx hs.length vcap))) := Lib.hid (((hbw.setCell (Nat.le_refl _) _).setCell (Nat.le_refl _) _).setCell (Nat.le_refl _) _)
        have hlt2 : w.heap.size < w1.heap.size := HR1.out.lt
        have hOO : wr.ownsRow w.heap.size 26 14 (.slice vx hs.length vcap) hs.length (hrows (hs.map toldOf)) := by
          have := hO.out
          rw [List.take_of_length_le (Nat.le_refl _)] at this
          obtain ⟨q1, q2⟩ := this
          refine ⟨q1, ?_⟩
          rcases q2 with q2 | ⟨g', cap', cur', q3, q4, q5⟩
          · exact .inl q2
          · exact .inr ⟨g', cap', cur', q3, by omega, q5⟩
        have HOO : Hid ((((wr.setCell ⟨w.heap.size, 0, none⟩ (.bool true)).setCell ⟨w.heap.size, 1, none⟩ (.string (B comment))).setCell ⟨w.heap.size, 2, none⟩ (.slice vx hs.length vcap)).ownsRow w.heap.size 26 14 (.slice vx hs.length vcap) hs.length (hrows (hs.map toldOf))) := Lib.hid (ownsRow_fr hOO ((((Fr.refl (· = w.heap.size) wr).setCell (fun _ => rfl) _).setCell (fun _ => rfl) _).setCell (fun _ => rfl) _) (fun b hb e => by subst hb; have := (hO.out.lt _ e.symm).1; omega))
        clear hR hbw hOO
        go_wp2_with fail
        generalize (((wr.setCell ⟨w.heap.size, 0, none⟩ (.bool true)).setCell ⟨w.heap.size, 1, none⟩ (.string (B comment))).setCell ⟨w.heap.size, 2, none⟩ (.slice vx hs.length vcap)) = w5 at HRR HBW HOO
        (try simp only [Exit.inBlock, Exit.then])
        refine bodyPost_ret (results_cell_row rfl _ _ w.heap.size 45 _ _ _ rfl HRR.out Tryz.underlying45 rfl sizeLst) rfl ?_
        exact ⟨_, rfl, Lib.hid (by rw [List.length_map]; exact HOO.out), HBW⟩
  · exfalso
    have := hn.out
    have := HC.out
    have := n2_lt D (D.length - b + k + 10)
    omega
end Go.Proofs.Zip
namespace Go.Proofs.Zip
open Go Go.RowKit
/-- A row of headers as it lies. -/
def IsHdrs (w : World) (v : Value) (l : List H) : Prop := ∃ a cap, v = .slice a l.length cap ∧ (l ≠ [] → ∃ b off, a = some ⟨b, off, none⟩ ∧ b < w.heap.size ∧ ∀ k h, l[k]? = some h → w.rangeAt b (off + k * 14) h.cells)
theorem IsHdrs.below {w w' : World} {v : Value} {l : List H} (h : IsHdrs w v l) (hb : Below w.heap.size w w') : IsHdrs w' v l := by
  obtain ⟨a, cap, h1, h2⟩ := h
  refine ⟨a, cap, h1, fun hne => ?_⟩
  obtain ⟨b, off, h3, h4, h5⟩ := h2 hne
  exact ⟨b, off, h3, keepSize hb h4, fun k x hx => rangeAt_below hb (h5 k x hx) h4⟩
set_option maxRecDepth 100000 in
set_option maxHeartbeats 4000000 in
theorem same_any (l : List H) (comment : List UInt8) (v1 v2 : Value) (w : World) (hv1 : IsHdrs w v1 l) (hv2 : IsHdrs w v2 l) (hl : l.length ≤ 65000) :
    Calls Tryz.prog 27 #[.agg #[.bool true, .string (B comment), v1], v2, .string (B comment)] w fun e w' => e = .returned (.bool true) ∧ Below w.heap.size w w' := by
  obtain ⟨a1, cap1, rfl, hr1⟩ := hv1
  obtain ⟨a2, cap2, rfl, hr2⟩ := hv2
  have HR1 := Lib.hid hr1
  have HR2 := Lib.hid hr2
  clear hr1 hr2
  go_enter Tryz.func27, Tryz.ntmps27
  go_wp2
  go_loopw [7] (fun t7 wr => ∃ kk : Nat, t7 = .int .i64 kk ∧ kk ≤ l.length ∧ Hid (Blk wr w.heap.size #[.bool true, .string (B comment), .slice a1 l.length cap1] 45) ∧ Hid (Below w.heap.size w wr)) (fun t7 _ => l.length - (intOf t7).toNat)
  case atStart => exact ⟨0, rfl, Nat.zero_le _, Lib.hid (Blk.new _ _ _), Lib.hid ((Below.refl _ _).alloc (Nat.le_refl _) _)⟩
  case round =>
    obtain ⟨kk, rfl, hk, hB, hW⟩ := hrel
    have d2 : wr.cell? ⟨w.heap.size, 2, none⟩ = some (.slice a1 l.length cap1) := hB.out.cell 2
    by_cases hlt : kk < l.length
    · have hne : l ≠ [] := by intro h; subst h; simp at hlt
      obtain ⟨b1, o1, rfl, hb1, g1⟩ := HR1.out hne
      obtain ⟨b2, o2, rfl, hb2, g2⟩ := HR2.out hne
      have q1 := rangeAt_below hW.out (g1 kk l[kk] (List.getElem?_eq_getElem hlt)) hb1
      have q2 := rangeAt_below hW.out (g2 kk l[kk] (List.getElem?_eq_getElem hlt)) hb2
      generalize l[kk] = h at q1 q2
      have c1_0 : wr.cell? ⟨b1, o1 + kk * 14, none⟩ = some (.string (B h.name)) := q1 0 _ rfl
      have c1_1 : wr.cell? ⟨b1, o1 + kk * 14 + 1, none⟩ = some (.string (B h.comment)) := q1 1 _ rfl
      have c1_2 : wr.cell? ⟨b1, o1 + kk * 14 + 2, none⟩ = some (.string (B h.extra)) := q1 2 _ rfl
      have c1_3 : wr.cell? ⟨b1, o1 + kk * 14 + 3, none⟩ = some (.bool h.non) := q1 3 _ rfl
      have c1_4 : wr.cell? ⟨b1, o1 + kk * 14 + 4, none⟩ = some (.int .i64 h.creator) := q1 4 _ rfl
      have c1_5 : wr.cell? ⟨b1, o1 + kk * 14 + 5, none⟩ = some (.int .i64 h.reader) := q1 5 _ rfl
      have c1_6 : wr.cell? ⟨b1, o1 + kk * 14 + 6, none⟩ = some (.int .i64 h.flags) := q1 6 _ rfl
      have c1_7 : wr.cell? ⟨b1, o1 + kk * 14 + 7, none⟩ = some (.int .i64 h.method) := q1 7 _ rfl
      have c1_8 : wr.cell? ⟨b1, o1 + kk * 14 + 8, none⟩ = some (.int .i64 h.time) := q1 8 _ rfl
      have c1_9 : wr.cell? ⟨b1, o1 + kk * 14 + 9, none⟩ = some (.int .i64 h.date) := q1 9 _ rfl
      have c1_10 : wr.cell? ⟨b1, o1 + kk * 14 + 10, none⟩ = some (.int .i64 h.crc) := q1 10 _ rfl
      have c1_11 : wr.cell? ⟨b1, o1 + kk * 14 + 11, none⟩ = some (.int .i64 h.packed) := q1 11 _ rfl
      have c1_12 : wr.cell? ⟨b1, o1 + kk * 14 + 12, none⟩ = some (.int .i64 h.size) := q1 12 _ rfl
      have c1_13 : wr.cell? ⟨b1, o1 + kk * 14 + 13, none⟩ = some (.int .i64 h.ext) := q1 13 _ rfl
      have c2_0 : wr.cell? ⟨b2, o2 + kk * 14, none⟩ = some (.string (B h.name)) := q2 0 _ rfl
      have c2_1 : wr.cell? ⟨b2, o2 + kk * 14 + 1, none⟩ = some (.string (B h.comment)) := q2 1 _ rfl
      have c2_2 : wr.cell? ⟨b2, o2 + kk * 14 + 2, none⟩ = some (.string (B h.extra)) := q2 2 _ rfl
      have c2_3 : wr.cell? ⟨b2, o2 + kk * 14 + 3, none⟩ = some (.bool h.non) := q2 3 _ rfl
      have c2_4 : wr.cell? ⟨b2, o2 + kk * 14 + 4, none⟩ = some (.int .i64 h.creator) := q2 4 _ rfl
      have c2_5 : wr.cell? ⟨b2, o2 + kk * 14 + 5, none⟩ = some (.int .i64 h.reader) := q2 5 _ rfl
      have c2_6 : wr.cell? ⟨b2, o2 + kk * 14 + 6, none⟩ = some (.int .i64 h.flags) := q2 6 _ rfl
      have c2_7 : wr.cell? ⟨b2, o2 + kk * 14 + 7, none⟩ = some (.int .i64 h.method) := q2 7 _ rfl
      have c2_8 : wr.cell? ⟨b2, o2 + kk * 14 + 8, none⟩ = some (.int .i64 h.time) := q2 8 _ rfl
      have c2_9 : wr.cell? ⟨b2, o2 + kk * 14 + 9, none⟩ = some (.int .i64 h.date) := q2 9 _ rfl
      have c2_10 : wr.cell? ⟨b2, o2 + kk * 14 + 10, none⟩ = some (.int .i64 h.crc) := q2 10 _ rfl
      have c2_11 : wr.cell? ⟨b2, o2 + kk * 14 + 11, none⟩ = some (.int .i64 h.packed) := q2 11 _ rfl
      have c2_12 : wr.cell? ⟨b2, o2 + kk * 14 + 12, none⟩ = some (.int .i64 h.size) := q2 12 _ rfl
      have c2_13 : wr.cell? ⟨b2, o2 + kk * 14 + 13, none⟩ = some (.int .i64 h.ext) := q2 13 _ rfl
      clear q1 q2 g1 g2 hb1 hb2
      go_upto_region 6 with fail
      go_region
      all_goals (
        go_wp2
        exact ⟨⟨kk + 1, by go_num, by omega, Lib.hid hB.out.drew, Lib.hid hW.out.drew⟩, by simp [intOf]; omega⟩)
    · obtain rfl : kk = l.length := by omega
      go_wp2
      go_ret
      exact ⟨rfl, hW.out⟩
end Go.Proofs.Zip
