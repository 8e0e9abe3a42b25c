/- A part of a proof over the given program: Iwc. Nothing is assumed here. -/
import Derived.Test.YtidmhfhfcoljeaaGreatDoorZWf
namespace Go.Proofs.Zip
open Go Go.RowKit
/-! impl.Write. -/
/-- The piece that is written of an entry. -/
def wrP (e : E) : Pc := if slash e.hdr.name then rawP (madeH e.hdr.name e.hdr.comment e.hdr.non e.hdr.ext) [] else cookP (madeH e.hdr.name e.hdr.comment e.hdr.non e.hdr.ext) e.data
def wrPs (es : List E) : List Pc := es.map wrP
theorem wrPs_snoc (es : List E) (k : Nat) (h : k < es.length) : wrPs (es.take (k + 1)) = wrPs (es.take k) ++ [wrP es[k]] := by
  unfold wrPs
  rw [List.take_succ_eq_append_getElem h, List.map_append]
  rfl
/-- An entry that may be written. -/
structure WrOk (e : E) : Prop where
  name : e.hdr.name.length ≤ 60000
  comment : e.hdr.comment.length ≤ 60000
  data : e.data.length ≤ 1048576
  ext : 0 ≤ e.hdr.ext ∧ e.hdr.ext ≤ 4294967295
  dir : slash e.hdr.name = true → e.data = []
theorem flagB_le (non : Bool) (n c : List UInt8) : 0 ≤ flagB non n c ∧ flagB non n c ≤ 2048 := by
  unfold flagB
  split <;> omega
theorem headerOk_of {h : H} (k : HOk h) : headerOk h = true := by
  obtain ⟨⟨a1, a2⟩, ⟨b1, b2⟩, ⟨c1, c2⟩, ⟨d1, d2⟩, ⟨e1, e2⟩, ⟨f1, f2⟩, ⟨g1, g2⟩, ⟨i1, i2⟩, ⟨j1, j2⟩, ⟨k1, k2⟩, l, m, n⟩ := k
  simp only [headerOk, twoB, fourB, within, Bool.and_eq_true, decide_eq_true_eq]
  omega
theorem madeH_ok {e : E} (h : WrOk e) (c : Nat) (n : Nat) (hc : c ≤ 4294967295) (hn : n ≤ 4294967294) : HOk { madeH e.hdr.name e.hdr.comment e.hdr.non e.hdr.ext with crc := c, packed := n, size := n } := by
  have hf := flagB_le e.hdr.non e.hdr.name e.hdr.comment
  refine ⟨by simp [madeH, midH, newH], by simp [madeH, midH, newH], ?_, by simp [madeH, midH, newH], by simp [madeH, midH, newH], by simp [madeH, midH, newH], ⟨by show (0 : Int) ≤ (c : Int); omega, by show (c : Int) ≤ 4294967295; omega⟩, ⟨by show (0 : Int) ≤ (n : Int); omega, by show (n : Int) ≤ 4294967294; omega⟩, ⟨by show (0 : Int) ≤ (n : Int); omega, by show (n : Int) ≤ 4294967294; omega⟩, h.ext, h.name, h.comment, by simp [madeH, midH, newH]⟩
  show 0 ≤ flagB e.hdr.non e.hdr.name e.hdr.comment + (if slash e.hdr.name = true then 0 else 8) ∧ flagB e.hdr.non e.hdr.name e.hdr.comment + (if slash e.hdr.name = true then 0 else 8) ≤ 65535
  split <;> omega
theorem wrP_ok {e : E} (h : WrOk e) : PcOk (wrP e) := by
  unfold wrP
  split
  · have := madeH_ok h 0 0 (by omega) (by omega)
    have e1 : ({ madeH e.hdr.name e.hdr.comment e.hdr.non e.hdr.ext with crc := ((0 : Nat) : Int), packed := ((0 : Nat) : Int), size := ((0 : Nat) : Int) } : H) = madeH e.hdr.name e.hdr.comment e.hdr.non e.hdr.ext := rfl
    rw [e1] at this
    exact ⟨headerOk_of this, h.name, by simp [madeH, midH, newH], by simp, by simp, by simp [madeH, midH, newH]⟩
  · have hd := h.data
    have := madeH_ok h (crc e.data) e.data.length (by have := crc_lt e.data; omega) (by omega)
    exact ⟨headerOk_of this, h.name, by simp [madeH, midH, newH], hd, by rw [length_descL]; omega, rfl⟩
set_option maxRecDepth 100000 in
set_option maxHeartbeats 8000000 in
theorem write_any {N0 : Nat} {E0 : Errs} (es : List E) (c : List UInt8) (v : Value) (w : World) (hE : Env w N0 E0) (hl : IsList w v es) (hok : ∀ e ∈ es, WrOk e) (hn : es.length ≤ 1000) (hc : c.length ≤ 65535) :
    Calls Tryz.prog 22 #[v, .string (B c)] w fun e w' => e = .returned (.tuple #[.string (B (arcP (wrPs es) c)), .bool true]) ∧ Hid (Below w.heap.size w w') := by
  obtain ⟨a, cap, rfl, hl⟩ := hl
  have HL := Lib.hid hl
  have HNW := Lib.hid (newWriter_any w.heap.size (w.alloc (.cells #[.pointer none, .slice none 0 0] 95)) (Blk.new _ _ _))
  have HN := Lib.hid hn
  have HOK := Lib.hid hok
  have HE := Lib.hid hE
  have HP : Hid (∀ p ∈ wrPs es, PcOk p) := Lib.hid (fun p hp => by
    obtain ⟨e, he, rfl⟩ := List.mem_map.1 hp
    exact wrP_ok (hok e he))
  clear hl hn hok hE
  go_enter Tryz.func22, Tryz.ntmps22
  go_wp2_with fail
  refine HNW.out.mono ?_
  rintro e w1 ⟨O, z, rfl, h1⟩
  obtain ⟨hsb, hba, hZ, hb1, hlow⟩ := h1.out
  have hbw : Below w.heap.size w w1 := ((Below.refl w.heap.size w).alloc (Nat.le_refl _) (.cells #[.pointer none, .slice none 0 0] 95)).trans (hb1.mono (by simp))
  have RS : Hid (∃ lw lv, ZwS w.heap.size w1 O z [] [] lw lv) := Lib.hid ⟨none, _, .shut [] none none [] ⟨hZ.toZwK, rfl, Nat.le_of_eq hba.symm, fun b hb => by
    by_cases hl : b < (w.alloc (.cells #[.pointer none, .slice none 0 0] 95)).heap.size
    · exact Nat.le_of_eq (hlow b hl hb).symm
    · simp at hl; omega⟩⟩
  have HBW := Lib.hid hbw
  have HSB := Lib.hid hsb
  clear h1 hZ hb1 hlow hbw hba hsb HNW
  go_wp2_with fail
  go_loopw [22] (fun t22 wr => ∃ k : Nat, t22 = .int .i64 k ∧ k ≤ es.length ∧ Hid (∃ lw lv, ZwS w.heap.size wr O z [] (wrPs (es.take k)) lw lv) ∧ Hid (Below w.heap.size w wr)) (fun t22 _ => es.length - (intOf t22).toNat)
  case atStart => exact ⟨0, rfl, Nat.zero_le _, RS, HBW⟩
  case round =>
    obtain ⟨k, rfl, hk, hS, hB⟩ := hrel
    have hes := HN.out
    have hpl : (pcsL (wrPs (es.take k))).length ≤ 1168622000 ∧ (wrPs (es.take k)).length + 1 ≤ 100000 := by
      have h1 := pcsL_ok (ps := wrPs (es.take k)) (fun p hp => HP.out p (by
        obtain ⟨e, he, rfl⟩ := List.mem_map.1 hp
        exact List.mem_map.2 ⟨e, List.mem_of_mem_take he, rfl⟩))
      have h2 : (wrPs (es.take k)).length ≤ 1000 := by
        unfold wrPs
        rw [List.length_map, List.length_take]; omega
      omega
    have hpd : ∀ p ∈ wrPs (es.take k), p.data.length ≤ 4294967294 := fun p hp => by
      have := (HP.out p (by
        obtain ⟨e, he, rfl⟩ := List.mem_map.1 hp
        exact List.mem_map.2 ⟨e, List.mem_of_mem_take he, rfl⟩)).data
      omega
    have HPL := Lib.hid (And.intro hpl.1 (And.intro hpl.2 hpd))
    clear hpl hpd
    by_cases hlt : k < es.length
    · obtain ⟨b, off, rfl, hblt, hr0⟩ := HL.out (fun e => by simp [e] at hlt)
      have hr := rangeAt_below hB.out (hr0 k es[k] (List.getElem?_eq_getElem hlt)) hblt
      have hwo := HOK.out es[k] (List.getElem_mem hlt)
      have hps := wrPs_snoc es k hlt
      have HPS := Lib.hid hps
      have HWO := Lib.hid hwo
      have hdl := hwo.data
      have hext := hwo.ext
      clear hwo hps hr0
      generalize es[k] = e at hr HWO HPS hdl hext
      obtain ⟨ps, hps⟩ : ∃ ps, ps = wrPs (es.take k) := ⟨_, rfl⟩
      rw [← hps] at hS HPS HPL
      clear hps
      have hsz := hB.out.size
      have hx : IntKind.u32.wrap e.hdr.ext = e.hdr.ext := by rw [IntKind.wrap_u32]; omega
      obtain ⟨lw, lv, hS0⟩ := hS.out
      have hE2 := HE.out.below hB.out
      obtain ⟨W2, hW2⟩ : ∃ W2, W2 = (wr.alloc (.cells e.cells.toArray 38)).alloc (.cells (nhCells (newH e.hdr.name e.hdr.comment e.hdr.non e.hdr.ext) e.hdr.non) 78) := ⟨_, rfl⟩
      have hb2 : Below wr.heap.size wr W2 := by rw [hW2]; exact ((Below.refl wr.heap.size wr).alloc (Nat.le_refl _) _).alloc (by simp) _
      have HCR := Lib.hid (createHeader_any (w := W2) hS0 hb2 (wr.heap.size + 1) e.hdr.name e.hdr.comment e.hdr.non e.hdr.ext (by rw [hW2]; exact Blk.new' _ _ (by simp)) (by omega) (hE2.below hb2) HE.out.le HWO.out.name HWO.out.comment HWO.out.ext HPL.out.2.2 (by have := HPL.out.1; omega) HPL.out.2.1)
      have BE2 : Hid (Blk W2 wr.heap.size e.cells.toArray 38) := Lib.hid (by rw [hW2]; exact (Blk.new _ _ _).alloc _)
      have HB2 := Lib.hid hb2
      rw [hW2] at HCR
      have HW2 := Lib.hid hW2
      clear hb2 hS0 hE2 hW2
      go_wp2_with (first
          | (refine wpList_load_mid rfl 38 _ rfl b (off + k * 15) rfl e.cells _ hr Tryz.underlying38 rfl sizeEnt ?_)
          | (refine wpList_alloc_store 38 _ _ e.cells rfl rfl rfl rfl rfl rfl sizesEnt rfl ?_))
      refine HCR.out.mono ?_
      rintro r w3 ⟨lw', rfl, h3⟩
      have hF3 := h3.out.2
      rw [← HW2.out] at hF3
      have hM := h3.out.1
      have c14 : w3.cell? ⟨wr.heap.size, 14, none⟩ = some (.string (B e.data)) := (hF3.blk BE2.out (by omega)).cell 14
      have hB3 : Hid (Below w.heap.size w w3) := Lib.hid ((hB.out.trans (HB2.out.mono hsz)).trans (hF3.below (Nat.le_trans hsz HB2.out.size) (fun i hi => by omega)))
      have hcv := fun w => run_bytes e.data w
      clear h3 HCR BE2 HB2 HW2 hF3 hS hr
      cases lw' with
      | none =>
        obtain ⟨hsl, hZ⟩ := hM.none rfl
        have hd0 : e.data = [] := HWO.out.dir hsl
        have hwp : wrP e = rawP (madeH e.hdr.name e.hdr.comment e.hdr.non e.hdr.ext) [] := by
          unfold wrP
          rw [if_pos (show slash e.hdr.name = true from hsl)]
        have HO3 := Lib.hid hZ
        have HWP := Lib.hid hwp
        rw [hd0] at hcv c14
        clear hM hd0 hZ hwp hsl
        dsimp only [rawOut]
        have HDW := Lib.hid (dirWrite_any (.slice (some ⟨w3.heap.size, 0, none⟩) 0 (grownCap w3 0 0 5)) (bytesW [] w3) ⟨_, _, rfl⟩ (.agg #[]) rfl)
        go_wp2_with fail
        refine HDW.out.mono ?_
        rintro r w4 ⟨rfl, h4⟩
        have hb4 : Below w3.heap.size w3 w4 := (bytesW_below [] w3).trans (h4.out.mono (by rw [bytesW_size]; omega))
        have FIN : Hid ((∃ lw lv, ZwS w.heap.size w4 O z [] (wrPs (es.take (k + 1))) lw lv) ∧ Below w.heap.size w w4) := Lib.hid ⟨⟨_, _, by rw [HPS.out, HWP.out]; exact HO3.out.next hb4⟩, hB3.out.trans (hb4.mono hB3.out.size)⟩
        clear h4 HDW HO3 hb4
        go_wp2
        exact ⟨⟨k + 1, by go_num, by omega, Lib.hid FIN.out.1, Lib.hid FIN.out.2⟩, by simp [intOf]; omega⟩
      | some l =>
        obtain ⟨hsl, ob, db, rc, np, cc, ch, lo, es2, e2, he2, hD1⟩ := hM.some l rfl
        have hwp : wrP e = cookP (madeH e.hdr.name e.hdr.comment e.hdr.non e.hdr.ext) e.data := by
          unfold wrP
          rw [if_neg (by rw [show slash e.hdr.name = false from hsl]; simp)]
        have hD2 := hD1.next (bytesW_below e.data w3)
        have hHW := hD2.write w3.heap.size (grownCap w3 e.data.length 0 5) e.data (by rw [bytesW_size]; omega) (bytesW_cap _ _) (bytesW_range _ _) (fun e => by have := hD1.zk.lt _ (.inl e); omega) (fun e => by have := hD1.rl; have := e.2; omega) (by
          have h1 := HPL.out.1
          have h2 := HWO.out.name
          rw [List.length_append, length_localL, he2]
          have e1 : (madeH e.hdr.name e.hdr.comment e.hdr.non e.hdr.ext).name = e.hdr.name := rfl
          have e3 : (madeH e.hdr.name e.hdr.comment e.hdr.non e.hdr.ext).extra = [] := rfl
          rw [e1, e3, List.length_nil]
          omega)
        have HW := Lib.hid hHW
        have HWP := Lib.hid (And.intro hwp he2)
        clear hM hD1 hD2 hHW hwp hsl he2
        dsimp only [rawOut]
        go_wp2_with fail
        refine HW.out.mono ?_
        rintro r w4 ⟨rfl, h4⟩
        have FIN : Hid ((∃ lw lv, ZwS w.heap.size w4 O z [] (wrPs (es.take (k + 1))) lw lv) ∧ Below w.heap.size w w4) := Lib.hid ⟨by
          obtain ⟨ob', k1⟩ := h4.out.1
          have := ZwS.opened ps e.data ob' db l rc np cc ch lo es2 e2 k1
          rw [HWP.out.2] at this
          exact ⟨_, _, by rw [HPS.out, HWP.out.1]; exact this⟩, (hB3.out.trans ((bytesW_below e.data w3).mono hB3.out.size)).trans (h4.out.2.below (by rw [bytesW_size]; have := hB3.out.size; omega) (fun i hi e => by omega))⟩
        clear h4 HW
        go_wp2
        exact ⟨⟨k + 1, by go_num, by omega, Lib.hid FIN.out.1, Lib.hid FIN.out.2⟩, by simp [intOf]; omega⟩
    · obtain rfl : k = es.length := by omega
      obtain ⟨lw, lv, hS0⟩ := hS.out
      rw [List.take_of_length_le (Nat.le_refl _)] at hS0
      obtain ⟨k5, f5, hO, hS1⟩ := hS0.comment c
      have hps := pcsL_ok HP.out
      have hps2 := catP_ok HP.out 0
      have hln : (wrPs es).length ≤ 1000 := by unfold wrPs; rw [List.length_map]; exact HN.out
      have HCL := Lib.hid (closed_any w.heap.size O z (wrPs es) c [] wr k5 f5 (hS1.endK (fun p hp => by have := (HP.out p hp).data; omega) (by omega)) (by omega) hc (by rw [List.length_append]; omega) hO)
      rw [HSB.out] at HCL
      clear k5 f5 hO hS0 hS1 hps hps2 hln hS
      go_wp2_with fail
      refine HCL.out.mono ?_
      rintro r w4 ⟨rfl, h4⟩
      have FIN : Hid (Below w.heap.size w w4) := Lib.hid (hB.out.trans h4.out)
      clear h4 HCL
      go_wp2
      go_ret2
      exact ⟨rfl, FIN⟩
end Go.Proofs.Zip
