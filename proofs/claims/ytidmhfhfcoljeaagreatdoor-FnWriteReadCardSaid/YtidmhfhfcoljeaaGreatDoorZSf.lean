/- A part of a proof over the given program: Dd, OpD, CkD, AllC, Cp. Nothing is assumed here. -/
import Derived.Test.YtidmhfhfcoljeaaGreatDoorZF
import Derived.Test.YtidmhfhfcoljeaaGreatDoorZM
import Derived.Test.YtidmhfhfcoljeaaGreatDoorZP
import Derived.Test.YtidmhfhfcoljeaaGreatDoorZN
import Derived.Test.YtidmhfhfcoljeaaGreatDoorZWc
import Derived.Test.YtidmhfhfcoljeaaGreatDoorZWg
namespace Go.Proofs.Zip
open Go Go.RowKit
set_option maxRecDepth 100000 in
set_option maxHeartbeats 2000000 in
/-- A data descriptor that tells the file's checksum. -/
theorem readDesc_any (s a f lim N0 rb off : Nat) (base n : Int) (D l : List UInt8) (h : H) (non : Bool) (t0 t1 t2 x : Value) (E : Errs) (w : World) (hp : IsPt w s a base n D lim l) (hf : fileAt w f h non t0 t1 t2 x rb a off) (hE : Env w N0 E) (hs0 : N0 ≤ s) (hsf : s ≠ f) (hsa : s ≠ a) (hsl : s < w.heap.size) (hal : a < w.heap.size)
    (hl : 16 ≤ l.length) (h0 : n4 l 0 = 134695760) (h4 : (n4 (l.drop 4) 0 : Int) = h.crc) (hlim : lim ≤ 4611686018427387904) (hD : D.length ≤ 4611686018427387904) :
    Calls Tryz.prog 216 #[partv s, .pointer (some ⟨f, 0, none⟩)] w fun e w' => e = .returned .nilIface ∧ Hid (Fr (fun b => b = s) w w') := by
  have hfl := hf.lt
  have hEl := hE.le
  have he0 := hE.eof.lt0
  go_enter Tryz.func216, Tryz.ntmps216
  have HP := Lib.hid hp
  have HF := Lib.hid hf
  have HE := Lib.hid hE
  have H4 := Lib.hid h4
  have H0 := Lib.hid h0
  obtain ⟨x0, x1, x2, x3, hx⟩ := four_of (L := l) (o := 0) (by omega)
  obtain ⟨y0, y1, y2, y3, hy⟩ := four_of (L := l.drop 4) (o := 0) (by rw [List.length_drop]; omega)
  rw [List.drop_zero] at hx hy
  have hl4 : (l.take 4).length = 4 := by rw [List.length_take]; omega
  have hl12 : ((l.drop 4).take 12).length = 12 := by rw [List.length_take, List.length_drop]; omega
  have hld : 12 ≤ (l.drop 4).length := by rw [List.length_drop]; omega
  have HL4 := Lib.hid hl4
  have HL12 := Lib.hid hl12
  have HX := Lib.hid hx
  have HY := Lib.hid hy
  have hn4 : leN [x0, x1, x2, x3] = 134695760 := by rw [← hx]; exact h0
  have hm4 : (leN [y0, y1, y2, y3] : Int) = h.crc := by rw [← hy]; exact h4
  clear hp hf hE h4 h0 hx hy hl4 hl12
  go_wp2_with (refine wpList_alloc_big rfl 345 rfl 16 (by kernel_rfl) ?_)
  intro cs hcs
  obtain ⟨g, hg⟩ : ∃ g, g = w.heap.size := ⟨_, rfl⟩
  have HG := Lib.hid hg
  have hfr1 : Fr (fun _ => False) w (w.alloc (.cells cs 345)) := (Fr.refl _ w).alloc _
  have hE1 := HE.out.fr hfr1 (fun _ h => h.elim)
  have hB1 : Blk (w.alloc (.cells cs 345)) g cs 345 := by rw [hg]; exact Blk.new _ _ _
  have HC1 := readFullPt_any s a g 4 16 lim base n D l cs 345 E.eof E.unx (w.alloc (.cells cs 345)) (HP.out.fr hfr1 id id) hB1 (by omega) N0 hE1.eof hE1.unx (by rintro b (e | e) <;> omega) (by decide) (by decide) hlim hD ⟨by omega, by omega, hsa, by omega⟩
  rw [HL4.out, show fullErr 4 l E.eof E.unx = .nilIface from if_pos (by omega), hg] at HC1
  have HC1 := Lib.hid HC1
  have HFR1 := Lib.hid hfr1
  clear hE1 hB1 hfr1 hg
  go_wp2_with fail
  refine HC1.out.mono ?_
  rintro e w1 ⟨rfl, hg1, hp1, hf1⟩
  have hgl : w.heap.size < w1.heap.size := hg1.lt
  have hFr1 : Fr (fun b => b = s) w w1 := (HFR1.out.mono (fun _ _ h => h.elim)).trans hf1 (fun i hi h => h.elim (fun e => by omega) id)
  have hE1 := HE.out.fr hFr1 (by rintro b rfl; exact hs0)
  have hF1 : fileAt w1 f h non t0 t1 t2 x rb a off := hFr1.blk HF.out (fun e => hsf e.symm)
  have R1 : w1.rangeAt w.heap.size 0 (u8s [x0, x1, x2, x3]) := by
    have := hg1.range (xs := u8s (l.take 4)) (by
      have := put_range cs 0 (l.take 4) (by rw [HL4.out]; omega)
      rw [length_u8s]; exact this)
    rw [HX.out] at this
    exact this
  have HRB1 := Lib.hid (rb32_any w1.heap.size w.heap.size 0 4 16 x0 x1 x2 x3 (w1.alloc (.cells #[.slice (some ⟨w.heap.size, 0, none⟩) 4 16] 194)) (Blk.new _ _ _) (fun j v hj => by
      rw [((Fr.refl (fun _ => False) w1).alloc (.cells #[.slice (some ⟨w.heap.size, 0, none⟩) 4 16] 194)).cell hgl id]; exact R1 j v hj) (by rw [World.size_alloc]; omega) (by decide) (by decide))
  rw [hn4] at HRB1
  have HFR1 := Lib.hid hFr1
  have HP1 := Lib.hid hp1
  have HG1 := Lib.hid hg1
  have HE1 := Lib.hid hE1
  have HF1 := Lib.hid hF1
  clear hp1 hg1 hf1 hE1 hF1 hFr1 R1 HC1 HP hn4
  go_wp2_with fail
  refine HRB1.out.mono ?_
  rintro e w2 ⟨rfl, hv2, hf2⟩
  have hFr2 : Fr (fun _ => False) w1 w2 := ((Fr.refl (fun _ => False) w1).alloc (.cells #[.slice (some ⟨w.heap.size, 0, none⟩) 4 16] 194)).trans hf2 (fun i hi e => by omega)
  have HFR2 := Lib.hid (HFR1.out.trans hFr2 (fun _ _ h => h.elim))
  have hE2 := HE1.out.fr hFr2 (fun _ h => h.elim)
  have hB2 := hFr2.blk HG1.out id
  have HC2 := readFullPt_any s a w.heap.size 12 16 lim base n D (l.drop 4) _ 345 E.eof E.unx w2 (HP1.out.fr hFr2 id id) hB2 (by rw [size_put _ _ _ (by rw [HL4.out]; omega)]; omega) N0 hE2.eof hE2.unx (by rintro b (e | e) <;> omega) (by decide) (by decide) hlim hD ⟨by omega, by omega, hsa, by omega⟩
  rw [HL12.out, show fullErr 12 (l.drop 4) E.eof E.unx = .nilIface from if_pos hld] at HC2
  have HC2 := Lib.hid HC2
  have hF2 := hFr2.blk HF1.out id
  have HE2 := Lib.hid hE2
  have HF2 := Lib.hid hF2
  clear hv2 hf2 hFr2 hE2 hB2 hF2 HRB1 HP1 HG1 HE1 HF1 HFR1
  go_wp2_with fail
  refine HC2.out.mono ?_
  rintro e w3 ⟨rfl, hg3, hp3, hf3⟩
  have hgl3 : w.heap.size < w3.heap.size := hg3.lt
  have HFR3 := Lib.hid (HFR2.out.trans hf3 (fun i hi h => h.elim (fun e => by omega) id))
  have hs3 := HFR3.out.size
  have R3 : w3.rangeAt w.heap.size 0 (u8s [y0, y1, y2, y3]) := by
    have h1 := hg3.range (xs := u8s ((l.drop 4).take 12)) (by
      have := put_range (put cs 0 (l.take 4)) 0 ((l.drop 4).take 12) (by rw [HL12.out, size_put _ _ _ (by rw [HL4.out]; omega)]; omega)
      rw [length_u8s]; exact this)
    have e : u8s [y0, y1, y2, y3] = (u8s ((l.drop 4).take 12)).take 4 := by
      rw [← HY.out]
      simp [u8s, List.map_take, List.take_take]
    intro j v hj
    rw [e, List.getElem?_take] at hj
    split at hj
    · exact h1 j v hj
    · cases hj
  have HF3 := Lib.hid (hf3.blk HF2.out (fun h => h.elim (fun e => by omega) (fun e => hsf e.symm)))
  have HRB3 : Hid (∀ w', Fr (fun _ => False) (w3.alloc (.cells #[.slice (some ⟨w.heap.size, 0, none⟩) 12 16] 194)) w' → Calls Tryz.prog 89 #[.pointer (some ⟨w3.heap.size, 0, none⟩)] w' fun e w'' => e = .returned (.int .u32 h.crc) ∧ Hid (Fr (· = w3.heap.size) w' w'')) := Lib.hid fun w' hw' => by
    refine (rb32_any w3.heap.size w.heap.size 0 12 16 y0 y1 y2 y3 w' (hw'.blk (Blk.new _ _ _) id) (fun j v hj => by
      rw [hw'.cell (by rw [World.size_alloc]; omega) id, ((Fr.refl (fun _ => False) w3).alloc (.cells #[.slice (some ⟨w.heap.size, 0, none⟩) 12 16] 194)).cell hgl3 id]; exact R3 j v hj) (by have := hw'.size; rw [World.size_alloc] at this; omega) (by decide) (by decide)).mono ?_
    rintro e w'' ⟨rfl, _, hf⟩
    exact ⟨by rw [hm4], Lib.hid hf⟩
  clear hg3 hp3 hf3 R3 HC2 HE2 HF2 HFR2
  have k12 : w3.cell? ⟨f, 12, none⟩ = some (.int .u32 h.crc) := HF3.out.cell 12
  have hf3l := HF3.out.lt
  have HK12 := Lib.hid k12
  go_upto_region 13 with fail
  go_region_with (go_at_call 89; refine (HRB3.out _ ?hh).mono ?_; (case hh => exact (Fr.refl _ _).drew); rintro e w4 ⟨rfl, hw4⟩; have d12 : w4.cell? ⟨f, 12, none⟩ = some (.int .u32 h.crc) := (by rw [hw4.out.cell (by rw [World.size_drew, World.size_alloc]; omega) (by omega), World.cell?_drew, ((Fr.refl (fun _ => False) w3).alloc (.cells #[.slice (some ⟨w.heap.size, 0, none⟩) 12 16] 194)).cell hf3l id]; exact HK12.out))
  all_goals (
    have FIN : Hid (Fr (fun b => b = s) w w4) := Lib.hid (HFR3.out.trans ((((Fr.refl (fun _ => False) w3).alloc (.cells #[.slice (some ⟨w.heap.size, 0, none⟩) 12 16] 194)).drew).trans hw4.out (fun i hi e => by omega)) (fun _ _ h => h.elim))
    clear HRB3 hw4
    go_wp2
    go_ret
    exact ⟨rfl, FIN⟩)
end Go.Proofs.Zip
namespace Go.Proofs.Zip
open Go Go.RowKit
/-- What Open makes of a stored file that a data descriptor stands behind. -/
def DescPost (f a off body : Nat) (h : H) (w : World) (e : Ending) (w' : World) : Prop := ∃ q s hb sd, e = .returned (.tuple #[chkv q, .nilIface]) ∧ Hid (Blk w' q (chkCells (nopv s) hb f (partv sd) 0 .nilIface) 179 ∧ IsPart w' s a ((off : Int) + body) ((off : Int) + body) ((off : Int) + body + h.packed) h.packed ∧ IsPart w' sd a ((off : Int) + body + h.packed) ((off : Int) + body + h.packed) ((off : Int) + body + h.packed + 16) 16 ∧ IsHash w' hb 0 ∧ w.heap.size ≤ s ∧ s < sd ∧ sd < hb ∧ hb < q ∧ Below w.heap.size w w')
theorem desc_fin (w3 : World) (A C : Array Value) (t1 t2 : TypeId) : Blk ((w3.alloc (.cells A t1)).alloc (.cells C t2)) (w3.heap.size + 1) C t2 ∧ Blk ((w3.alloc (.cells A t1)).alloc (.cells C t2)) w3.heap.size A t1 ∧ Fr (fun _ => False) w3 ((w3.alloc (.cells A t1)).alloc (.cells C t2)) := by
  have h1 := Blk.new w3 A t1
  have h2 := Blk.new (w3.alloc (.cells A t1)) C t2
  rw [show (w3.alloc (.cells A t1)).heap.size = w3.heap.size + 1 by simp] at h2
  exact ⟨h2, h1.alloc _, ((Fr.refl (fun _ => False) w3).alloc _).alloc _⟩
set_option maxRecDepth 100000 in
set_option maxHeartbeats 2000000 in
theorem openDesc_any {f rb a off body N0 : Nat} {h : H} {non : Bool} {t0 t1 t2 x : Value} {D : List UInt8} {E : Errs} {files : Value} {comment : List UInt8} {base : Int} (w : World) (o : Opn w f rb a off body N0 h non t0 t1 t2 x D E files comment base) (hs : slash h.name = false) (hm : h.method = 0) (hdd : (bits .and .u16 h.flags 8 != 0) = true) :
    Calls Tryz.prog 54 #[.pointer (some ⟨f, 0, none⟩)] w (DescPost f a off body h w) := by
  go_enter Tryz.func54, Tryz.ntmps54
  have HO := Lib.hid o
  have HB := Lib.hid (body_any f a off N0 _ D _ E w o.file rfl rfl o.text o.env rfl o.loc.len o.loc.sig (by have := o.len; omega))
  have hbody := o.loc.body
  have n26 := n2_lt ((D.drop off).take 30) 26
  have n28 := n2_lt ((D.drop off).take 30) 28
  rw [hbody] at HB
  have hbl : body ≤ 200000 := by omega
  have hol := o.offl
  have hp0 := o.packed.1
  have hp1 := o.packed.2
  have HM := Lib.hid hm
  clear o hm hbody n26 n28
  go_wp2_with fail
  refine HB.out.mono ?_
  rintro e w1 ⟨rfl, hb1⟩
  have O1 := Lib.hid (HO.out.below hb1)
  have k0 : w1.cell? ⟨f, 0, none⟩ = some (.string (B h.name)) := O1.out.file.cell 0
  have HB1 := Lib.hid hb1
  have HS := Lib.hid (Tryz.strings_HasSuffix (B h.name) (B [47]) w1 (by rw [size_B]; have := O1.out.nl; omega))
  clear hb1 HB HO
  go_wp2_with fail
  refine HS.out.mono ?_
  rintro e w2 ⟨rfl, rfl⟩
  have hsl : Lib.hasSuffix (B h.name).data.toList (B [47]).data.toList = false := by rw [data_B, data_B]; exact hs
  rw [hsl]
  clear HS hsl hs k0
  have k15 : w2.cell? ⟨f, 15, none⟩ = some (.int .u64 h.packed) := O1.out.file.cell 15
  have k20 : w2.cell? ⟨f, 20, none⟩ = some (textv a) := O1.out.file.cell 20
  have k21 : w2.cell? ⟨f, 21, none⟩ = some (.int .i64 off) := O1.out.file.cell 21
  have k19 : w2.cell? ⟨f, 19, none⟩ = some (.pointer (some ⟨rb, 0, none⟩)) := O1.out.file.cell 19
  have k6 : w2.cell? ⟨f, 6, none⟩ = some (.int .u16 h.method) := O1.out.file.cell 6
  have hfw := O1.out.file.lt
  have cg : w2.cell? ⟨2, 0, none⟩ = some (errv E.alg) := O1.out.env.alg.sen.cell
  have hgl : 2 < w2.heap.size := O1.out.env.alg.sen.lt
  have hn := nilf_fn
  have HD : Hid (∀ w', Fr (fun _ => False) w2 w' → Calls Tryz.prog 82 #[.pointer (some ⟨rb, 0, none⟩), .int .u16 h.method] w' fun e w'' => e = .returned (.func (.func 142) #[] #[]) ∧ w' = w'') := Lib.hid fun w' hf => by
    have := decomp_any rb a files comment base h.method w' (hf.blk O1.out.rdr id)
    rw [HM.out] at this ⊢
    exact this
  go_upto_region 9 with fail
  have hsum : IntKind.i64.wrap ((off : Int) + body) = (off : Int) + body := by
    rw [IntKind.wrap_i64]
    omega
  go_region_with (go_at_call 63; refine (newSection_any a ((off : Int) + body) h.packed _ (by omega) hp0 (by omega)).mono ?_; rintro e w3 ⟨rfl, hw3⟩; have HW3 := Lib.hid hw3; clear hw3)
  all_goals (
    have hf3 : Fr (fun _ => False) w2 w3 := by rw [HW3.out]; exact (Fr.refl (fun _ => False) w2).drew.alloc _
    have hs3 : w2.heap.size ≤ w3.heap.size := by rw [HW3.out]; simp
    have hg3 : 2 < w3.heap.size := by omega
    have m19 : w3.cell? ⟨f, 19, none⟩ = some (.pointer (some ⟨rb, 0, none⟩)) := (hf3.blk O1.out.file id).cell 19
    have m6 : w3.cell? ⟨f, 6, none⟩ = some (.int .u16 h.method) := (hf3.blk O1.out.file id).cell 6
    have HF3 := Lib.hid hf3
    have hp3 : IsPart w3 w2.heap.size a ((off : Int) + body) ((off : Int) + body) ((off : Int) + body + h.packed) h.packed := by rw [HW3.out]; exact Blk.new _ _ _
    have HP3 := Lib.hid hp3
    clear hp3
    clear HW3 hf3 k15 k20 k21 k19 k6 cg hsum
    go_upto_region 10 with fail
    go_region_with (go_at_call 82; refine (HD.out _ ?hh).mono ?_; (case hh => exact HF3.out.drew); rintro e w4 ⟨rfl, hw4⟩; have HW4 := Lib.hid hw4; clear hw4))
  all_goals (
    have e4 := HW4.out
    subst e4
    go_wp2_with fail
    refine (nop_any w2.heap.size _).mono ?_
    rintro e w5 ⟨rfl, rfl⟩
    have HDD := Lib.hid (dataDesc_any f h non t0 t1 t2 x _ _ off w3.drew (HF3.out.drew.blk O1.out.file id))
    rw [hdd] at HDD
    go_wp2_with fail
    refine HDD.out.mono ?_
    rintro e w6 ⟨rfl, rfl⟩
    have hsum2 : IntKind.i64.wrap ((off : Int) + body) = (off : Int) + body := by
      rw [IntKind.wrap_i64]
      omega
    have hsum3 : IntKind.i64.wrap ((off : Int) + body + h.packed) = (off : Int) + body + h.packed := by
      rw [IntKind.wrap_i64]
      omega
    have n20 : w3.drew.cell? ⟨f, 20, none⟩ = some (textv a) := (HF3.out.drew.blk O1.out.file id).cell 20
    have n21 : w3.drew.cell? ⟨f, 21, none⟩ = some (.int .i64 off) := (HF3.out.drew.blk O1.out.file id).cell 21
    clear HDD hdd HD HW4 m19 m6
    go_upto_region 16 with fail
    go_region_with (go_at_call 63; refine (newSection_any a ((off : Int) + body + h.packed) 16 _ (by omega) (by omega) (by omega)).mono ?_; rintro e w7 ⟨rfl, hw7⟩; have HW7 := Lib.hid hw7; clear hw7))
  all_goals (
    have HF7 : Hid (Fr (fun _ => False) w3 w7 ∧ IsPart w7 w3.heap.size a ((off : Int) + body + h.packed) ((off : Int) + body + h.packed) ((off : Int) + body + h.packed + 16) 16) := Lib.hid (by rw [HW7.out]; exact ⟨((Fr.refl (fun _ => False) w3).drew.drew).alloc _, Blk.new _ _ _⟩)
    clear HW7 n20 n21 hsum2 hsum3
    go_wp2
    go_ret2
    obtain ⟨b1, b2, f1⟩ := desc_fin w7 #[.int .u32 0] (chkCells (nopv w2.heap.size) w7.heap.size f (partv w3.heap.size) 0 .nilIface) 159 179
    have hs1 := HB1.out.size
    have hpl := HP3.out.lt
    have hpl7 := HF7.out.2.lt
    exact ⟨w7.heap.size + 1, w2.heap.size, w7.heap.size, w3.heap.size, rfl, Lib.hid ⟨b1, f1.blk (HF7.out.1.blk HP3.out id) id, f1.blk HF7.out.2 id, b2, hs1, hpl, hpl7, by omega, ((Fr.of_below (S := fun _ => False) HB1.out).trans2 (HF3.out.trans2 (HF7.out.1.trans2 f1 (U := fun _ => False) (fun _ h => h) (fun _ h => h)) (U := fun _ => False) (fun _ h => h) (fun _ h => h)) (U := fun _ => False) (fun _ h => h) (fun _ h => h)).below (Nat.le_refl _) (fun _ _ h => h)⟩⟩)
end Go.Proofs.Zip
namespace Go.Proofs.Zip
open Go Go.RowKit
/-- A checked reader q over the part s of the text a, with a descriptor's part sd: k bytes of the part's text T are read. -/
structure ChkD (w : World) (q s hb f a b k P sd : Nat) (D T : List UInt8) : Prop where
  chk : Blk w q (chkCells (nopv s) hb f (partv sd) k .nilIface) 179
  part : IsPart w s a (b : Int) ((b + k : Nat) : Int) ((b + P : Nat) : Int) (P : Int)
  hash : IsHash w hb (crc (T.take k))
  text : IsText w a D
  desc : IsPt w sd a ((b + P : Nat) : Int) 16 D (b + P + 16) (rest D (b + P) (b + P + 16))
structure ChkApartD (q s hb f a g N0 sd : Nat) : Prop extends ChkApart q s hb f a g N0 where
  dg : sd ≠ g
  dq : sd ≠ q
  ds : sd ≠ s
  dh : sd ≠ hb
  df : sd ≠ f
  da : sd ≠ a
  nd : N0 ≤ sd
/-- The descriptor behind T tells its checksum. -/
structure DescOk (D T : List UInt8) (o : Nat) : Prop where
  len : 16 ≤ (rest D o (o + 16)).length
  sig : n4 (rest D o (o + 16)) 0 = 134695760
  crc : n4 ((rest D o (o + 16)).drop 4) 0 = Zip.crc T
/-- What a Read of it does. -/
def ChkPostD (q s hb f a b k P g len sd : Nat) (D T : List UInt8) (E : Errs) (cur : Array Value) (t : TypeId) (w : World) (e : Ending) (w' : World) : Prop :=
  ∃ M, Hid (M = (T.drop k).take len ∧ Blk w' g (put cur 0 M) t ∧ Fr (fun b => b = g ∨ b = s ∨ b = hb ∨ b = q ∨ b = sd) w w') ∧ k + M.length ≤ P ∧ M.length ≤ len ∧
    ((e = .returned (.tuple #[.int .i64 M.length, .nilIface]) ∧ 0 < M.length ∧ Hid (ChkD w' q s hb f a b (k + M.length) P sd D T)) ∨
     (Hid (k + M.length = P) ∧ e = .returned (.tuple #[.int .i64 M.length, errv E.eof])))
theorem neq_part (s : Nat) (w : World) : (binOp .neq 89 (partv s) .nilIface).run Tryz.prog w = .ok (.bool true) w := by kernel_rfl
set_option maxRecDepth 100000 in
set_option maxHeartbeats 2000000 in
theorem chkReadD_any (q s hb f rb a off b k P g cap N0 sd : Nat) (h : H) (non : Bool) (t0 t1 t2 x : Value) (D T : List UInt8) (cur : Array Value) (t : TypeId) (E : Errs) (w : World) (hc : ChkD w q s hb f a b k P sd D T) (hE : Env w N0 E) (hap0 : ChkApartD q s hb f a g N0 sd) (hf : fileAt w f h non t0 t1 t2 x rb a off)
    (hT : rest D b (b + P) = T) (hTl : T.length = P) (hszP : h.size = (P : Int)) (hcrc : h.crc = (crc T : Int)) (hdd : DescOk D T (b + P)) (hsz2 : P ≤ 4294967295) (hg : Blk w g cur t) (len : Nat) (hk : k ≤ P) (hlen : 0 < len) (hcap : len ≤ cap) (hcur : len ≤ cur.size) (hl2 : len ≤ 4611686018427387904) (hP : b + P + 16 ≤ 4611686018427387904) (hD : D.length ≤ 4611686018427387904) :
    Calls Tryz.prog 215 #[.pointer (some ⟨q, 0, none⟩), .slice (some ⟨g, 0, none⟩) len cap] w (ChkPostD q s hb f a b k P g len sd D T E cur t w) := by
  have hap := hap0.toChkApart
  have HAD := Lib.hid hap0
  have HDD := Lib.hid hdd
  have HSZ := Lib.hid hszP
  have HCRC := Lib.hid hcrc
  have h1 := hE.eof.lt0
  have hrest : rest D (b + k) (b + P) = T.drop k := by rw [rest_drop, hT]
  obtain ⟨r, hr, hr0, hC⟩ := partRead_any s a g 0 len cap (b + k) (b + P) b P D cur t E.eof w hc.text hc.part hg (by omega) hE.eof.sen (by have := hap.n; omega) hap.ga hap.gs hlen hcap hl2 (by omega) hD
  rw [hrest] at hr hr0 hC
  have HC := Lib.hid hC
  go_enter Tryz.func215, Tryz.ntmps215
  have c5 : w.cell? ⟨q, 5, none⟩ = some .nilIface := hc.chk.cell 5
  have c0 : w.cell? ⟨q, 0, none⟩ = some (nopv s) := hc.chk.cell 0
  have HA := Lib.hid hap
  have HH := Lib.hid hc
  have HE := Lib.hid hE
  have HF := Lib.hid hf
  have HG := Lib.hid hg
  have HR := Lib.hid hr
  have HR0 := Lib.hid hr0
  have HTL := Lib.hid hTl
  clear hap0 hdd hszP hcrc
  clear hC hap hc hE hf hg hr hr0 h1 hrest hT hTl
  go_wp2_with fail
  refine HC.out.mono ?_
  rintro e w1 ⟨rfl, hg1, hp1, hf1⟩
  clear HC
  have hml : ((T.drop k).take len).length ≤ len ∧ k + ((T.drop k).take len).length ≤ P := by rw [List.length_take, List.length_drop, HTL.out]; omega
  obtain ⟨M, hM⟩ : ∃ M, M = (T.drop k).take len := ⟨_, rfl⟩
  rw [← hM] at hml hg1 hp1
  obtain ⟨hml, hmP⟩ := hml
  have HM := Lib.hid hM
  have hstep := Lib.hid (crc_step T M k len hM)
  rw [show (T.drop k).take len = M from hM.symm]
  clear hM
  have hq1 : Blk w1 q (chkCells (nopv s) hb f (partv sd) k .nilIface) 179 := hf1.blk HH.out.chk (fun h => h.elim (fun e => HA.out.gq e.symm) HA.out.qs)
  have hh1 : IsHash w1 hb (crc (T.take k)) := hf1.blk HH.out.hash (fun h => h.elim (fun e => HA.out.gh e.symm) (fun e => HA.out.sh e.symm))
  have hff1 : fileAt w1 f h non t0 t1 t2 x rb a off := hf1.blk HF.out (fun h => h.elim (fun e => HA.out.gf e.symm) (fun e => HA.out.sf e.symm))
  have ht1 : IsText w1 a D := hf1.blk HH.out.text (fun h => h.elim (fun e => HA.out.ga e.symm) (fun e => HA.out.sa e.symm))
  have k1 : w1.cell? ⟨q, 1, none⟩ = some (.pointer (some ⟨hb, 0, none⟩)) := hq1.cell 1
  have HW : Hid (∀ w', Fr (fun _ => False) w1 w' → Calls Tryz.prog 204 #[.pointer (some ⟨hb, 0, none⟩), .slice (some ⟨g, 0, none⟩) M.length cap] w' fun e w'' => e = .returned (.tuple #[.int .i64 M.length, .nilIface]) ∧ Hid (IsHash w'' hb (crc (T.take (k + M.length))) ∧ Fr (· = hb) w1 w'')) := Lib.hid fun w' hw' => by
    have hg' := hw'.blk hg1 id
    refine (hashWrite_any hb g 0 cap _ M w' (hw'.blk hh1 id) (hg'.range (by have := put_range cur 0 M (by omega); rw [show (u8s M).length = M.length by simp [u8s]]; exact this)) hg'.lt (by omega) (by omega) (crc_lt _)).mono ?_
    rintro e w'' ⟨rfl, h1, h2⟩
    rw [hstep.out] at h1
    exact ⟨rfl, Lib.hid ⟨h1, hw'.trans2 h2 (U := (· = hb)) (fun _ h => h.elim) (fun _ h => h)⟩⟩
  go_upto_region 4 with fail
  go_region_with (go_at_call 204; refine (HW.out _ ?hh).mono ?_; (case hh => exact (Fr.refl _ _).drew); rintro e w4 ⟨rfl, hw4⟩)
  all_goals (
    have hq4 : Blk w4 q (chkCells (nopv s) hb f (partv sd) k .nilIface) 179 := hw4.out.2.blk hq1 HA.out.qh
    have hff4 : fileAt w4 f h non t0 t1 t2 x rb a off := hw4.out.2.blk hff1 (fun e => HA.out.hf e.symm)
    have k2 : w4.cell? ⟨q, 2, none⟩ = some (.int .u64 k) := hq4.cell 2
    have f2 : w4.frozen? ⟨q, 2, none⟩ = false := hq4.frozen 2
    have hs1 : IntKind.u64.wrap (M.length : Int) = M.length := by rw [IntKind.wrap_u64]; omega
    have hs2 : IntKind.u64.wrap ((k : Int) + (M.length : Int)) = ((k + M.length : Nat) : Int) := by rw [IntKind.wrap_u64]; omega
    have FR4 : Hid (Fr (fun b => b = g ∨ b = s ∨ b = hb ∨ b = q) w w4) := Lib.hid (hf1.trans2 hw4.out.2 (fun _ h => h.elim .inl (fun h => .inr (.inl h))) (fun _ h => .inr (.inr (.inl h))))
    have HE4 : Hid (Env w4 N0 E) := Lib.hid (HE.out.fr FR4.out (by have := HA.out.n; rintro b (e | e | e | e) <;> subst e <;> omega))
    have HS4 : Hid (IsPart w4 s a (b : Int) ((b + (k + M.length) : Nat) : Int) ((b + P : Nat) : Int) (P : Int) ∧ IsText w4 a D ∧ Blk w4 g (put cur 0 M) t) := Lib.hid ⟨by rw [← Nat.add_assoc]; exact hw4.out.2.blk hp1 HA.out.sh, hw4.out.2.blk ht1 (fun e => HA.out.ha e.symm), hw4.out.2.blk hg1 HA.out.gh⟩
    have HQ4 := Lib.hid hq4
    have HF4 := Lib.hid hff4
    clear HW k1 c5 c0 hq1 hh1 hff1 hf1 hg1 hp1 hq4 hff4 ht1
    go_upto_region 6 with fail
    generalize hW5 : w4.setCell ⟨q, 2, none⟩ (.int .u64 ((k : Int) + (M.length : Int))) = w5
    have hq5 : Blk w5 q (chkCells (nopv s) hb f (partv sd) ((k : Int) + (M.length : Int)) .nilIface) 179 := by rw [← hW5]; exact HQ4.out.set 2 _
    have hf5 : fileAt w5 f h non t0 t1 t2 x rb a off := by rw [← hW5]; exact HF4.out.set_ne (fun e => HA.out.qf e.symm) _
    have FR5 : Hid (Fr (fun b => b = g ∨ b = s ∨ b = hb ∨ b = q) w w5) := Lib.hid (by rw [← hW5]; exact FR4.out.setCell (fun _ => .inr (.inr (.inr rfl))) _)
    have HS5 : Hid (IsPart w5 s a (b : Int) ((b + (k + M.length) : Nat) : Int) ((b + P : Nat) : Int) (P : Int) ∧ IsText w5 a D ∧ Blk w5 g (put cur 0 M) t ∧ IsHash w5 hb (crc (T.take (k + M.length)))) := Lib.hid (by rw [← hW5]; exact ⟨HS4.out.1.set_ne (fun e => HA.out.qs e.symm) _, HS4.out.2.1.set_ne (fun e => HA.out.qa e.symm) _, HS4.out.2.2.set_ne (fun e => HA.out.gq e) _, hw4.out.1.set_ne (fun e => HA.out.qh e.symm) _⟩)
    have HE5 : Hid (Env w5 N0 E) := Lib.hid (HE.out.fr FR5.out (by have := HA.out.n; rintro b (e | e | e | e) <;> subst e <;> omega))
    have d2 : w5.cell? ⟨q, 2, none⟩ = some (.int .u64 ((k : Int) + (M.length : Int))) := hq5.cell 2
    have d3 : w5.cell? ⟨q, 3, none⟩ = some (.pointer (some ⟨f, 0, none⟩)) := hq5.cell 3
    have d4 : w5.cell? ⟨q, 4, none⟩ = some (partv sd) := hq5.cell 4
    have d1 : w5.cell? ⟨q, 1, none⟩ = some (.pointer (some ⟨hb, 0, none⟩)) := hq5.cell 1
    have d16 : w5.cell? ⟨f, 16, none⟩ = some (.int .u64 h.size) := hf5.cell 16
    have d12 : w5.cell? ⟨f, 12, none⟩ = some (.int .u32 h.crc) := hf5.cell 12
    have f5 : w5.frozen? ⟨q, 5, none⟩ = false := hq5.frozen 5
    have d5 : w5.cell? ⟨q, 5, none⟩ = some .nilIface := hq5.cell 5
    have ge : w5.cell? ⟨5, 0, none⟩ = some (errv E.eof) := HE5.out.eof.sen.cell
    have gu : w5.cell? ⟨4, 0, none⟩ = some (errv E.unx) := HE5.out.unx.sen.cell
    have gc : w5.cell? ⟨3, 0, none⟩ = some (errv E.chk) := HE5.out.chk.sen.cell
    have HD5 : Hid (IsPt w5 sd a ((b + P : Nat) : Int) 16 D (b + P + 16) (rest D (b + P) (b + P + 16))) := Lib.hid (HH.out.desc.fr FR5.out (fun e => e.elim HAD.out.dg (fun e => e.elim HAD.out.ds (fun e => e.elim HAD.out.dh HAD.out.dq))) (fun e => e.elim (fun e => HA.out.ga e.symm) (fun e => e.elim (fun e => HA.out.sa e.symm) (fun e => e.elim (fun e => HA.out.ha e.symm) (fun e => HA.out.qa e.symm)))))
    have HQ5 := Lib.hid hq5
    have HF5 := Lib.hid hf5
    clear hq5 hf5 hw4 HE4 HS4 FR4 HQ4 HF4 k2 f2 hW5 hs1 hs2
    go_region)
  all_goals (
    have hz : ¬ h.size < (k : Int) + (M.length : Int) := by have := HSZ.out; omega
    have ceq := eql_same E.eof
    rcases HR.out with hr | ⟨hr, hend⟩
    · subst hr
      have hm0 : 0 < M.length := by
        rcases Nat.eq_zero_or_pos M.length with h0 | h0
        · exfalso
          have hn : T.drop k = [] := by
            have h2 := HM.out
            rw [List.eq_nil_of_length_eq_zero h0] at h2
            rcases List.take_eq_nil_iff.1 h2.symm with h3 | h3
            · omega
            · exact h3
          have := HR0.out hn
          simp [errv] at this
        · exact h0
      have HM0 := Lib.hid hm0
      clear hm0 HR HR0
      go_wp2
      go_ret2
      exact ⟨M, Lib.hid ⟨HM.out, HS5.out.2.2.1.drew, (FR5.out.mono (fun _ _ h => h.elim .inl (fun h => h.elim (fun h => .inr (.inl h)) (fun h => h.elim (fun h => .inr (.inr (.inl h))) (fun h => .inr (.inr (.inr (.inl h)))))))).drew⟩, hmP, hml, .inl ⟨rfl, HM0.out, Lib.hid ⟨HQ5.out.drew, HS5.out.1.drew, HS5.out.2.2.2.drew, HS5.out.2.1.drew, HD5.out.fr ((Fr.refl (fun _ => False) w5).drew) id id⟩⟩⟩
    · subst hr
      have hkP : k + M.length = P := by
        have h2 := congrArg List.length HM.out
        have h3 := congrArg List.length hend
        rw [List.length_take, List.length_drop, HTL.out] at h2
        rw [List.length_drop, List.length_drop, HTL.out] at h3
        simp at h3
        omega
      have HKP := Lib.hid hkP
      have htk : T.take (k + M.length) = T := List.take_of_length_le (by rw [HTL.out]; omega)
      have HTK := Lib.hid htk
      clear hend HR HR0 htk
      have hne : (((k : Int) + (M.length : Int)) != h.size) = false := by rw [bne_eq_false_iff_eq]; have := HSZ.out; omega
      have hnp := neq_part sd
      clear hkP
      go_upto_region 10 with fail
      go_region
      go_upto_region 13 with fail
      have HRD : Hid (∀ w', Fr (fun _ => False) w5 w' → Calls Tryz.prog 216 #[partv sd, .pointer (some ⟨f, 0, none⟩)] w' fun e w'' => e = .returned .nilIface ∧ Hid (Fr (fun b => b = sd) w5 w'')) := Lib.hid fun w' hw' => by
        have hd := HD5.out.fr hw' id id
        have hal : a < w'.heap.size := (hw'.blk HS5.out.2.1 id).lt
        have hsl : sd < w'.heap.size := by obtain ⟨_, hp, _⟩ := hd; exact hp.lt
        refine (readDesc_any sd a f (b + P + 16) N0 rb off _ _ D _ h non t0 t1 t2 x E w' hd (hw'.blk HF5.out id) (HE5.out.fr hw' (fun _ h => h.elim)) HAD.out.nd HAD.out.df HAD.out.da hsl hal HDD.out.len HDD.out.sig (by rw [HDD.out.crc, HCRC.out]) hP hD).mono ?_
        rintro e w'' ⟨rfl, hf⟩
        exact ⟨rfl, Lib.hid (hw'.trans2 hf.out (U := fun b => b = sd) (fun _ h => h.elim) (fun _ h => h))⟩
      go_region_with (go_at_call 216; refine (HRD.out _ ?hh).mono ?_; (case hh => exact (Fr.refl _ _).drew.drew.drew); rintro e w6 ⟨rfl, hw6⟩)
      all_goals (
        have hq6 := hw6.out.blk HQ5.out (fun e => HAD.out.dq e.symm)
        have hff6 := hw6.out.blk HF5.out (fun e => HAD.out.df e.symm)
        have HS6 : Hid (IsHash w6 hb (crc T)) := Lib.hid (by
          have := hw6.out.blk HS5.out.2.2.2 (fun e => HAD.out.dh e.symm)
          rw [HTK.out] at this
          exact this)
        have fin : Hid (∀ w', Fr (fun b => b = q) w6 w' → Blk w' g (put cur 0 M) t ∧ Fr (fun b => b = g ∨ b = s ∨ b = hb ∨ b = q ∨ b = sd) w w') := Lib.hid fun w' hf => ⟨hf.blk (hw6.out.blk HS5.out.2.2.1 (fun e => HAD.out.dg e.symm)) HA.out.gq,
          FR5.out.trans2 (hw6.out.trans2 hf (U := fun b => b = q ∨ b = sd) (fun _ h => .inr h) (fun _ h => .inl h)) (fun _ h => h.elim .inl (fun h => h.elim (fun h => .inr (.inl h)) (fun h => h.elim (fun h => .inr (.inr (.inl h))) (fun h => .inr (.inr (.inr (.inl h))))))) (fun _ h => .inr (.inr (.inr h)))⟩
        clear d1 d2 d3 d4 d5 d12 d16 f5 ge gu gc
        have d1 : w6.cell? ⟨q, 1, none⟩ = some (.pointer (some ⟨hb, 0, none⟩)) := hq6.cell 1
        have d3 : w6.cell? ⟨q, 3, none⟩ = some (.pointer (some ⟨f, 0, none⟩)) := hq6.cell 3
        have d5 : w6.cell? ⟨q, 5, none⟩ = some .nilIface := hq6.cell 5
        have f5 : w6.frozen? ⟨q, 5, none⟩ = false := hq6.frozen 5
        have d12 : w6.cell? ⟨f, 12, none⟩ = some (.int .u32 h.crc) := hff6.cell 12
        have HSUM : Hid (∀ n, Calls Tryz.prog 130 #[.pointer (some ⟨hb, 0, none⟩)] (w6.drewN n) fun e w' => e = .returned (.int .u32 (crc T)) ∧ w' = w6.drewN n) := Lib.hid fun n =>
          (hashSum_any hb (crc T) _ (HS6.out.drewN n)).mono fun e w' ⟨h1, h2⟩ => ⟨h1, h2.symm⟩
        have hsb : (((crc T : Nat) : Int) != h.crc) = false := by rw [bne_eq_false_iff_eq]; exact HCRC.out.symm
        clear hq6 hff6 hw6 HRD
        go_upto_region 18 with fail
        go_quiet (first | (go_at_call 130; refine Calls.quiet_of_same (HSUM.out _)))
        go_wp2
        go_ret2
        obtain ⟨z1, z2⟩ := fin.out _ (((Fr.refl (· = q) w6).drewN nq).setCell (a := ⟨q, 5, none⟩) (fun _ => rfl) (errv E.eof))
        exact ⟨M, Lib.hid ⟨HM.out, z1, z2⟩, hmP, hml, .inr ⟨HKP, rfl⟩⟩))
end Go.Proofs.Zip
namespace Go.Proofs.Zip
open Go Go.RowKit
/-! Reading all of a file that a data descriptor stands behind. -/
theorem ChkD.fr {S : Nat → Prop} {w w' : World} {q s hb f a b k P sd : Nat} {D T : List UInt8} (h : ChkD w q s hb f a b k P sd D T) (hf : Fr S w w') (hS : ∀ x, x = q ∨ x = s ∨ x = hb ∨ x = a ∨ x = sd → ¬ S x) : ChkD w' q s hb f a b k P sd D T :=
  ⟨hf.blk h.chk (hS _ (.inl rfl)), hf.blk h.part (hS _ (.inr (.inl rfl))), hf.blk h.hash (hS _ (.inr (.inr (.inl rfl)))), hf.blk h.text (hS _ (.inr (.inr (.inr (.inl rfl))))), h.desc.fr hf (hS _ (.inr (.inr (.inr (.inr rfl))))) (hS _ (.inr (.inr (.inr (.inl rfl)))))⟩
set_option maxRecDepth 100000 in
set_option maxHeartbeats 2000000 in
theorem allChkD_any (q s hb f rb a off b P N0 sd : Nat) (h : H) (non : Bool) (t0 t1 t2 x : Value) (D T : List UInt8) (E : Errs) (w : World) (hc : ChkD w q s hb f a b 0 P sd D T) (hE : Env w N0 E) (hf : fileAt w f h non t0 t1 t2 x rb a off)
    (hT : rest D b (b + P) = T) (hTl : T.length = P) (hsz : h.size = (P : Int)) (hcrc : h.crc = (crc T : Int)) (hdd : DescOk D T (b + P)) (hP : b + P + 16 ≤ 2305843009213693952) (hPP : P ≤ 8388608) (hD : D.length ≤ 2305843009213693952)
    (hs0 : N0 ≤ s) (hsd : s < sd) (hdh : sd < hb) (hhq : hb < q) (hfl : f < s) (hal : a < s) :
    Calls Tryz.prog 41 #[chkv q] w fun e w' => e = .returned (.tuple #[.string (B T), .int .i64 0]) ∧ Hid (Fr (fun b => b = s ∨ b = hb ∨ b = q ∨ b = sd) w w') := by
  have HCRC := Lib.hid hcrc
  have HSZ := Lib.hid hsz
  have HDD := Lib.hid hdd
  clear hcrc hsz hdd
  go_enter Tryz.func41, Tryz.ntmps41
  have HC := Lib.hid hc
  have HE := Lib.hid hE
  have HF := Lib.hid hf
  have HT := Lib.hid hT
  have HTL := Lib.hid hTl
  have qlt := hc.chk.lt
  clear hc hE hf hT hTl
  go_wp2_with (refine wpList_make_bytes rfl _ _ rfl 512 rfl rfl (by decide) ?_)
  intro w1 cs hgb hcs hbl hlt
  obtain ⟨gb, hgbe⟩ : ∃ gb, gb = w.heap.size + 1 := ⟨_, rfl⟩
  rw [← hgbe] at hgb hbl hlt ⊢
  have hgb0 : w.heap.size < gb := by omega
  have hfr1 : Fr (fun _ => False) (w.alloc (.cells #[] 5)) w1 := Fr.of_below (by rw [World.size_alloc, ← hgbe]; exact hbl)
  have hst : AllSt w w1 (.slice (some ⟨w.heap.size, 0, none⟩) 0 0) gb (fun b => b = s ∨ b = hb ∨ b = q ∨ b = sd) cs [] := by
    refine ⟨ownsRow_fr (S := fun _ => False) ?_ hfr1 (fun _ h => h.elim), ?_, hgb, (((Fr.refl _ w).alloc _)).trans2 hfr1 (fun _ h => h) (fun _ h => h.elim)⟩
    · exact ⟨rfl, .inr ⟨_, 0, _, rfl, Nat.le_refl _, heap_alloc_last _ _, Nat.le_refl _, by decide, rfl, rfl⟩⟩
    · intro b hb e; simp [Value.ownBlock] at hb; omega
  have hst2 : ChkD w1 q s hb f a b 0 P sd D T ∧ Env w1 N0 E ∧ fileAt w1 f h non t0 t1 t2 x rb a off := by
    have hfr : Fr (fun _ => False) w w1 := ((Fr.refl _ w).alloc _).trans2 hfr1 (fun _ h => h) (fun _ h => h)
    exact ⟨HC.out.fr hfr (fun _ _ => id), HE.out.fr hfr (fun _ h => h.elim), hfr.blk HF.out id⟩
  have HST := Lib.hid hst
  have HST2 := Lib.hid hst2
  clear hst hst2 hgb hbl hfr1 hlt hgbe
  go_wp2_with fail
  go_loopw [4] (fun v wr => ∃ (k : Nat) (cur : Array Value), k ≤ P ∧ cur.size = 512 ∧ Hid (AllSt w wr v gb (fun b => b = s ∨ b = hb ∨ b = q ∨ b = sd) cur (T.take k)) ∧ Hid (ChkD wr q s hb f a b k P sd D T)) (fun v _ => P - lenOfV v)
  case atStart =>
    exact ⟨0, cs, Nat.zero_le _, hcs, Lib.hid (by rw [List.take_zero]; exact HST.out), Lib.hid HST2.out.1⟩
  case round =>
    obtain ⟨k, cur, hk, hcur, hSt, hCh⟩ := hrel
    have hEr : Hid (Env wr N0 E) := Lib.hid (HE.out.fr hSt.out.fr (by rintro b (e | e | e | e) <;> omega))
    have hFr : Hid (fileAt wr f h non t0 t1 t2 x rb a off) := Lib.hid (hSt.out.fr.blk HF.out (by rintro (e | e | e | e) <;> omega))
    have hn0 := HE.out.le
    have HR := Lib.hid (chkReadD_any q s hb f rb a off b k P gb 512 N0 sd h non t0 t1 t2 x D T cur 5 E wr hCh.out hEr.out ⟨⟨by omega, by omega, by omega, by omega, by omega, by omega, by omega, by omega, by omega, by omega, by omega, by omega, by omega, by omega, by omega⟩, by omega, by omega, by omega, by omega, by omega, by omega, by omega⟩ hFr.out HT.out HTL.out HSZ.out HCRC.out HDD.out (by omega) hSt.out.buf 512 hk (by decide) (Nat.le_refl _) (by omega) (by decide) (by omega) (by omega))
    have hlk : (T.take k).length = k := by rw [List.length_take, HTL.out]; omega
    have HLK := Lib.hid hlk
    have hlv := lenOfV_own hSt.out.own
    rw [hlk] at hlv
    have ceq := eql_same E.eof
    clear hlk hEr hFr hn0
    go_wp2_with fail
    refine HR.out.mono ?_
    rintro e wa ⟨M, hM, hkM, hMl, hor⟩
    have HMM := Lib.hid hM.out.1
    have hSt2 : Hid (AllSt w wa _ gb (fun b => b = s ∨ b = hb ∨ b = q ∨ b = sd) (put cur 0 M) (T.take k)) := Lib.hid (hSt.out.read hM.out.2.1 (hM.out.2.2.mono (fun b _ h => h)) (by omega) (fun _ h => h) (by rintro b (e | e | e | e) <;> omega))
    have hEa : Hid (Env wa N0 E) := Lib.hid (HE.out.fr hSt2.out.fr (by rintro b (e | e | e | e) <;> omega))
    have hMc : M.length ≤ cur.size := by omega
    rcases hor with ⟨rfl, hm0, hCh2⟩ | ⟨hlast, rfl⟩
    · clear hM HR hlv hSt hCh
      go_wp2_with (at_builtin; refine wpList_app_bytes rfl _ _ rfl w.heap.size _ (T.take k) rfl hSt2.out.own gb M.length 512 M rfl rfl ?c1 ?c2 ?c3 ?_)
      case c1 => have := hSt2.out.chunk (Nat.le_refl _) hMc; rw [List.take_length] at this; exact this
      case c2 => rw [HLK.out]; omega
      case c3 => exact hSt2.out.fr.size
      intro v' wb own' fr' at'
      have own2 : wb.ownsRow w.heap.size 5 1 v' (T.take k ++ M).length (u8s (T.take k ++ M)) := by simpa using own'
      have hSt3 := Lib.hid (hSt2.out.app (by omega) own2 fr' at')
      have hEb := HE.out.fr hSt3.out.fr (by rintro b (e | e | e | e) <;> omega)
      have ge : wb.cell? ⟨5, 0, none⟩ = some (errv E.eof) := hEb.eof.sen.cell
      have nq := fun e w => nil_eql e w
      have hCh3 : Hid (ChkD wb q s hb f a b (k + M.length) P sd D T) := Lib.hid (hCh2.out.fr fr' (fun b hb e => by have := ownBlock_ge hSt2.out.own b e; have := qlt; rcases hb with h | h | h | h <;> omega))
      clear own' own2 fr' at' hEb
      go_wp2
      have hlk2 : T.take k ++ M = T.take (k + M.length) := by
        have h2 := HMM.out
        rw [List.take_add]
        congr 1
        rw [h2, List.take_eq_take_iff]; simp
      have hcur2 : (put cur 0 M).size = 512 := by rw [size_put _ _ _ (by omega)]; exact hcur
      refine ⟨⟨k + M.length, put cur 0 M, hkM, hcur2, Lib.hid ?_, Lib.hid ?_⟩, ?_⟩
      · rw [← hlk2]; exact hSt3.out
      · exact hCh3.out
      · rw [lenOfV_own hSt3.out.own, lenOfV_own hSt2.out.own, List.length_append, HLK.out]; omega
    · clear hM HR hlv hSt hCh
      go_wp2_with (at_builtin; refine wpList_app_bytes rfl _ _ rfl w.heap.size _ (T.take k) rfl hSt2.out.own gb M.length 512 M rfl rfl ?c1 ?c2 ?c3 ?_)
      case c1 => have := hSt2.out.chunk (Nat.le_refl _) hMc; rw [List.take_length] at this; exact this
      case c2 => rw [HLK.out]; omega
      case c3 => exact hSt2.out.fr.size
      intro v' wb own' fr' at'
      have own2 : wb.ownsRow w.heap.size 5 1 v' (T.take k ++ M).length (u8s (T.take k ++ M)) := by simpa using own'
      have hSt3 := Lib.hid (hSt2.out.app (by omega) own2 fr' at')
      have hEb := HE.out.fr hSt3.out.fr (by rintro b (e | e | e | e) <;> omega)
      have ge : wb.cell? ⟨5, 0, none⟩ = some (errv E.eof) := hEb.eof.sen.cell
      have hcv := run_convert_own 76 5 9 Tryz.underlying76 Tryz.underlying5 Tryz.underlying9 hSt3.out.own
      have HEB := Lib.hid hEb
      clear own' own2 fr' at' hEb
      go_wp2_with fail
      go_ret2
      refine ⟨?_, Lib.hid hSt3.out.fr⟩
      have e1 : T.take k ++ (T.drop k).take 512 = T.take (k + 512) := by rw [List.take_add]
      have e2 : T.take k ++ M = T := by
        rw [HMM.out, e1]
        refine List.take_of_length_le ?_
        have h2 := congrArg List.length HMM.out
        rw [List.length_take, List.length_drop, HTL.out] at h2
        have := hlast.out
        rw [HTL.out]; omega
      show Ending.returned (.tuple #[.string (B (T.take k ++ M)), .int .i64 0]) = _
      rw [e2]
end Go.Proofs.Zip
namespace Go.Proofs.Zip
open Go Go.RowKit
/-! impl.Content of a piece that was written. -/
/-- What a file is that a data descriptor stands behind, or a directory. -/
structure FileDesc (D : List UInt8) (off body : Nat) (h : H) (T : List UInt8) : Prop where
  loc : LocalAt D off body
  nl : h.name.length ≤ 60000
  offl : off ≤ 2305843009213693952
  packed : 0 ≤ h.packed ∧ h.packed ≤ 4294967294
  dir : slash h.name = true → h.size = 0 ∧ T = []
  desc : slash h.name = false → h.method = 0 ∧ (bits .and .u16 h.flags 8 != 0) = true ∧ h.packed = (T.length : Int) ∧ h.size = (T.length : Int) ∧ h.crc = (crc T : Int) ∧ T.length ≤ 8388608 ∧ rest D (off + body) (off + body + T.length) = T ∧ DescOk D T (off + body + T.length) ∧ off + body + T.length + 16 ≤ 2305843009213693952
set_option maxRecDepth 100000 in
set_option maxHeartbeats 2000000 in
theorem contentD_any (base b k N0 kk body : Nat) (D tl T : List UInt8) (hs : List (H × Nat)) (x : H × Nat) (E : Errs) (w : World) (hE : Env w N0 E) (ht : ArcText D b k base hs tl) (hc : hs.length = n2 D (D.length - b + k + 10)) (hk : hs[kk]? = some x) (hT : FileDesc D (x.2 + base) body x.1 T) :
    Calls Tryz.prog 27 #[.string (B D), .int .i64 kk] w fun e w' => e = .returned (.tuple #[.string (B T), .int .i64 0]) ∧ Hid (Below w.heap.size w w') := by
  have hlen := ht.len
  have HFL := Lib.hid (file_any base b k N0 kk D tl hs x E w hE ht hc hk)
  have HE := Lib.hid hE
  have HT := Lib.hid hT
  clear hE ht hc hk hT
  go_enter Tryz.func27, Tryz.ntmps27
  go_wp2_with fail
  refine HFL.out.mono ?_
  rintro e w1 ⟨f, rfl, rb, a, files, non, t0, t1, t2, xv, hF⟩
  obtain ⟨hfa, hrd, hta, hb1⟩ := hF.out
  have hE1 := HE.out.below hb1
  have HB1 := Lib.hid hb1
  have HO : Hid (Opn w1 f rb a (x.2 + base) body N0 x.1 non t0 t1 t2 xv D E files _ base) := Lib.hid ⟨hfa, hrd, hta, hE1, HT.out.loc, hlen, HT.out.nl, HT.out.offl, HT.out.packed⟩
  clear hF HFL hfa hrd hta hb1 hE1
  cases hsl : slash x.1.name
  · obtain ⟨hm, s6, s1, sz, sc, s3, s4, sd0, s5⟩ := HT.out.desc hsl
    have HOP := Lib.hid (openDesc_any w1 HO.out hsl hm s6)
    clear hm hsl
    go_wp2_with fail
    refine HOP.out.mono ?_
    rintro e w2 ⟨q, s, hb, sd, rfl, hP⟩
    obtain ⟨p1, p2, pd, p3, p4, p5, p6, p7, p9⟩ := hP.out
    have hE2 := HO.out.env.below p9
    have hle := HO.out.env.le
    have hfl := HO.out.file.lt
    have hal := HO.out.text.lt
    have hchk : ChkD w2 q s hb f a (x.2 + base + body) 0 T.length sd D T := by
      rw [s1] at p2 pd
      have e1 : (((x.2 + base : Nat) : Int) + (body : Int)) = ((x.2 + base + body : Nat) : Int) := by omega
      have e2 : (((x.2 + base + body : Nat) : Int) + (T.length : Int)) = ((x.2 + base + body + T.length : Nat) : Int) := by omega
      have e3 : (((x.2 + base + body + T.length : Nat) : Int) + 16) = ((x.2 + base + body + T.length + 16 : Nat) : Int) := by omega
      rw [e1, e2] at p2
      rw [e1, e2, e3] at pd
      exact ⟨p1, p2, by rw [List.take_zero, crc_nil]; exact p3, below_blk p9 HO.out.text, _, pd, below_blk p9 HO.out.text, rfl⟩
    have HAL := Lib.hid (allChkD_any q s hb f rb a (x.2 + base) (x.2 + base + body) T.length N0 sd x.1 non t0 t1 t2 xv D T E w2 hchk hE2 (below_blk p9 HO.out.file) s4 rfl sz sc sd0 s5 s3 hlen (by omega) p5 p6 p7 (by omega) (by omega))
    have HB2 : Hid (Below w.heap.size w w2) := Lib.hid (below_up HB1.out p9)
    have hge : Hid (w.heap.size ≤ s ∧ w.heap.size ≤ hb ∧ w.heap.size ≤ q ∧ w.heap.size ≤ sd) := Lib.hid (by have := HB1.out.size; omega)
    clear HOP hP p1 p2 pd p3 p4 p5 p6 p7 p9 hE2 hchk s1 sz sc s3 s4 sd0 s5 s6
    go_wp2_with fail
    refine HAL.out.mono ?_
    rintro e w3 ⟨rfl, hf3⟩
    clear HAL
    go_wp2_with fail
    go_ret2
    refine ⟨rfl, Lib.hid ?_⟩
    exact HB2.out.trans (hf3.out.below HB2.out.size (by have := hge.out; rintro i hi (e | e | e | e) <;> omega))
  · obtain ⟨hz, rfl⟩ := HT.out.dir hsl
    have HOP := Lib.hid (openSlash_any f rb a (x.2 + base) body N0 x.1 non t0 t1 t2 xv D E w1 HO.out.file HO.out.text HO.out.env HO.out.loc hlen HO.out.nl hsl)
    clear hsl
    go_wp2_with fail
    refine HOP.out.mono ?_
    rintro e w2 ⟨q, rfl, hP⟩
    obtain ⟨p1, p2, p9⟩ := hP.out
    have hE2 := HO.out.env.below p9
    have HB2 : Hid (Below w.heap.size w w2) := Lib.hid (below_up HB1.out p9)
    rw [if_pos hz] at p1
    have HAL := Lib.hid (allDir_any q N0 E E.eof 0 w2 p1 hE2 (.inl ⟨rfl, rfl⟩))
    clear hz p1 p2 p9 hE2 hP HOP
    go_wp2_with fail
    refine HAL.out.mono ?_
    rintro e w3 ⟨rfl, hf3⟩
    clear HAL
    go_wp2_with fail
    go_ret2
    exact ⟨rfl, Lib.hid (HB2.out.trans (hf3.below HB2.out.size (fun _ _ h => h)))⟩
theorem descL_ok (c n : Int) (hc : 0 ≤ c ∧ c ≤ 4294967295) : n4 (descL c n) 0 = 134695760 ∧ (n4 ((descL c n).drop 4) 0 : Int) = c := by
  have e' : ∀ n : Int, ∃ a b c d, leB 4 n = [a, b, c, d] := fun n => ⟨_, _, _, _, rfl⟩
  obtain ⟨a1, b1, c1, d1, q1⟩ := e' c
  obtain ⟨a2, b2, c2, d2, q2⟩ := e' n
  have hL : descL c n = [80, 75, 7, 8, a1, b1, c1, d1, a2, b2, c2, d2, a2, b2, c2, d2] := by
    unfold descL; rw [q1, q2]; rfl
  refine ⟨by rw [n4, hL]; simp [leN], ?_⟩
  have h4 := leN_leB4 c hc.1 hc.2
  rw [q1] at h4
  rw [n4, hL]
  exact h4
theorem madeH_flag (name comment : List UInt8) (non : Bool) (ext : Int) (hs : slash name = false) : (bits .and .u16 (madeH name comment non ext).flags 8 != 0) = true := by
  have e : (madeH name comment non ext).flags = flagB non name comment + 8 := by
    show flagB non name comment + (if slash name = true then 0 else 8) = _
    rw [hs]; rfl
  rw [e]
  unfold flagB
  split <;> decide
theorem wrP_name (e : E) : (wrP e).hdr.name = e.hdr.name := by
  unfold wrP
  split <;> rfl
theorem pcDesc {es : List E} {c : List UInt8} (h : PcsOk (wrPs es) c) (hok : ∀ e ∈ es, WrOk e) {k : Nat} (hk : k < es.length) (hk2 : k < (wrPs es).length) : FileDesc (arcP (wrPs es) c) (pcsL ((wrPs es).take k)).length (30 + (wrPs es)[k].loc.name.length + (wrPs es)[k].loc.extra.length) (wrPs es)[k].hdr es[k].data := by
  have hL := pcLoc h hk2
  have hle := pcsL_le (wrPs es) k
  have ht := pcText (c := c) k hk2 hle
  have hpo := h.ok _ (List.getElem_mem hk2)
  have hls := pcsL_ok h.ok
  have hn := h.len
  have hw := hok _ (List.getElem_mem hk)
  have e1 : (wrPs es)[k] = wrP es[k] := by simp [wrPs]
  have l1 := hpo.ln
  have l2 := hpo.lx
  have l3 := hw.data
  rw [e1] at hL ht l1 l2 ⊢
  generalize (pcsL ((wrPs es).take k)).length = off at hL ht hle ⊢
  generalize hR : pcsL ((wrPs es).drop (k + 1)) ++ (catL (hsP (wrPs es) 0) ++ endL (wrPs es).length (catL (hsP (wrPs es) 0)).length (pcsL (wrPs es)).length c) = R at ht
  generalize arcP (wrPs es) c = D at hL ht ⊢
  clear hR e1 hpo
  generalize es[k] = e at hw hL ht l1 l2 l3 ⊢
  refine ⟨hL.loc, hL.nl, hL.offl, hL.packed, fun hs => ?_, fun hs => ?_⟩
  · rw [wrP_name] at hs
    exact ⟨by unfold wrP; rw [if_pos hs]; rfl, hw.dir hs⟩
  · rw [wrP_name] at hs
    have ew : wrP e = cookP (madeH e.hdr.name e.hdr.comment e.hdr.non e.hdr.ext) e.data := by
      unfold wrP; rw [if_neg (by rw [hs]; simp)]
    rw [ew] at ht l1 l2 ⊢
    have hd := descL_ok (crc e.data) e.data.length ⟨by omega, by have := crc_lt e.data; omega⟩
    have hbody : (madeH e.hdr.name e.hdr.comment e.hdr.non e.hdr.ext).name.length ≤ 60000 ∧ (madeH e.hdr.name e.hdr.comment e.hdr.non e.hdr.ext).extra.length ≤ 60000 := ⟨l1, l2⟩
    refine ⟨rfl, madeH_flag e.hdr.name e.hdr.comment e.hdr.non e.hdr.ext hs, rfl, rfl, rfl, by omega, rest_of_drop _ _ _ _ ht, ?_, by omega⟩
    have ht2 : D.drop (off + (30 + (madeH e.hdr.name e.hdr.comment e.hdr.non e.hdr.ext).name.length + (madeH e.hdr.name e.hdr.comment e.hdr.non e.hdr.ext).extra.length) + e.data.length) = descL (crc e.data) e.data.length ++ R := by
      rw [← List.drop_drop, ht, drop_len_append _ _ _ rfl]
    have hr := rest_of_drop _ _ _ _ ht2
    rw [length_descL] at hr
    refine ⟨by rw [hr, length_descL]; exact Nat.le_refl _, by rw [hr]; exact hd.1, ?_⟩
    rw [hr]
    have := hd.2
    omega
theorem content_pcs {N0 : Nat} {E0 : Errs} {es : List E} {c : List UInt8} {k : Nat} (w : World) (hE : Env w N0 E0) (h : PcsOk (wrPs es) c) (hok : ∀ e ∈ es, WrOk e) (hk : k < es.length) :
    Calls Tryz.prog 27 #[.string (B (arcP (wrPs es) c)), .int .i64 k] w fun e w' => e = .returned (.tuple #[.string (B es[k].data), .int .i64 0]) ∧ Hid (Below w.heap.size w w') := by
  have hk2 : k < (wrPs es).length := by unfold wrPs; rw [List.length_map]; exact hk
  obtain ⟨b, kk, hA, _, hc, _⟩ := h.arc
  have hx := hsP_get (wrPs es) 0 k hk2
  rw [Nat.zero_add] at hx
  exact contentD_any 0 b kk N0 k _ (arcP (wrPs es) c) _ es[k].data (hsP (wrPs es) 0) ((wrPs es)[k].hdr, (pcsL ((wrPs es).take k)).length) E0 w hE hA hc hx (pcDesc h hok hk hk2)
end Go.Proofs.Zip
