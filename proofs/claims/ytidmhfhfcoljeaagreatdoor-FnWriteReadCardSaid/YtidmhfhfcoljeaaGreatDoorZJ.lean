/- A part of a proof over the given program: Cw4, Cw5, Env, Fb, Pl, Hd, Fr404. Nothing is assumed here. -/
import Derived.Test.YtidmhfhfcoljeaaGreatDoorZI
import Derived.Test.YtidmhfhfcoljeaaGreatDoorZE
import Derived.Test.YtidmhfhfcoljeaaGreatDoorZF
import Derived.Test.YtidmhfhfcoljeaaGreatDoorZA
import Derived.Test.YtidmhfhfcoljeaaGreatDoorZG
import Derived.Deep.DeepCutAuto
namespace Go.Proofs.Zip
open Go Go.RowKit
theorem eight_of {l : List UInt8} {k : Nat} (h : k + 8 < l.length) : ∃ b0 b1 b2 b3 b4 b5 b6 b7 r, l.drop k = b0 :: b1 :: b2 :: b3 :: b4 :: b5 :: b6 :: b7 :: r :=
  ⟨l[k], l[k+1], l[k+2], l[k+3], l[k+4], l[k+5], l[k+6], l[k+7], l.drop (k+8), by
    rw [List.drop_eq_getElem_cons (by omega), List.drop_eq_getElem_cons (by omega), List.drop_eq_getElem_cons (by omega), List.drop_eq_getElem_cons (by omega), List.drop_eq_getElem_cons (by omega), List.drop_eq_getElem_cons (by omega), List.drop_eq_getElem_cons (by omega), List.drop_eq_getElem_cons (by omega)]⟩
theorem drop_cell {w : World} {g o k i : Nat} {l : List UInt8} {b : UInt8} (h : w.rangeAt g o (u8s l)) (hi : (l.drop k)[i]? = some b) : w.cell? ⟨g, o + k + i, none⟩ = some (.int .u8 (b.toNat : Int)) := by
  have := h (k + i) (.int .u8 (b.toNat : Int)) (by rw [List.getElem?_drop] at hi; simp [u8s, hi])
  rw [← Nat.add_assoc] at this; exact this
def lenOf (v : Value) : Nat := match v with | .slice _ n _ => n | _ => 0
set_option maxRecDepth 100000 in
set_option maxHeartbeats 4000000 in
theorem slicing_any (t : Nat) (cs : Array Value) (T : TypeId) (g o cap c : Nat) (l : List UInt8) (w : World) (ht : Blk w t cs T) (hT : Tabs cs 256) (hl : w.rangeAt g o (u8s l)) (hg : g < w.heap.size) (hcap : l.length ≤ cap) (hlen : l.length ≤ 4611686018427387904) (hc : c < 4294967296) :
    Calls Tryz.prog 206 #[.int .u32 c, .pointer (some ⟨t, 0, none⟩), .slice (some ⟨g, o, none⟩) l.length cap] w fun e w' => e = .returned (.int .u32 (crcRaw (c ^^^ 4294967295) l ^^^ 4294967295 : Nat)) ∧ Below w.heap.size w w' := by
  go_enter Tryz.func206, Tryz.ntmps206
  have HT := Lib.hid ht
  have HTT := Lib.hid hT
  have HL := Lib.hid hl
  clear ht hT hl
  have hsg : IntKind.u32.signed = false := rfl
  by_cases h16 : 16 ≤ l.length
  · have hq := not32 c hc
    have hqx := not32x c hc
    generalize hqq : c ^^^ 4294967295 = q at hq hqx
    have HQ := Lib.hid hqq
    have hd16 : decide ((16 : Int) ≤ l.length) = true := by simp; omega
    clear hqq
    go_wp2
    go_loopw [0, 2] (fun v0 v2 wr => ∃ k m ca off c' : Nat, v2 = .slice (some ⟨g, off, none⟩) m ca ∧ v0 = .int .u32 c' ∧ 0 < m ∧ m ≤ ca ∧ m ≤ 4611686018427387904 ∧ c' < 4294967296 ∧ Hid (c' = crcRaw q (l.take k)) ∧ Hid (m + k = l.length ∧ off = o + k) ∧ Hid (Below w.heap.size w wr)) (fun _ v2 _ => lenOf v2)
    case atStart => exact ⟨0, l.length, cap, o, q, rfl, rfl, by omega, hcap, hlen, hq, Lib.hid rfl, Lib.hid ⟨rfl, rfl⟩, Lib.hid (Below.refl _ _)⟩
    case round =>
      obtain ⟨k, m, ca, off, c', rfl, rfl, hm0, hmc, hml, hc', he, hmk, hb⟩ := hrel
      by_cases hlt : 8 < m
      · obtain ⟨b0, b1, b2, b3, b4, b5, b6, b7, r, hd⟩ := eight_of (l := l) (k := k) (by have := hmk.out.1; omega)
        have hr : wr.rangeAt g o (u8s l) := rangeAt_below hb.out HL.out hg
        have hoff := hmk.out.2
        have k4 := drop_cell hr (i := 4) (b := b4) (by rw [hd]; rfl)
        have k5 := drop_cell hr (i := 5) (b := b5) (by rw [hd]; rfl)
        have k6 := drop_cell hr (i := 6) (b := b6) (by rw [hd]; rfl)
        have k7 := drop_cell hr (i := 7) (b := b7) (by rw [hd]; rfl)
        have hr4 : wr.rangeAt g off (u8s [b0, b1, b2, b3]) := by
          rw [hoff]
          intro j y hj
          match j, hj with
          | 0, hj => simp [u8s] at hj; subst hj; exact drop_cell hr (i := 0) (b := b0) (by rw [hd]; rfl)
          | 1, hj => simp [u8s] at hj; subst hj; exact drop_cell hr (i := 1) (b := b1) (by rw [hd]; rfl)
          | 2, hj => simp [u8s] at hj; subst hj; exact drop_cell hr (i := 2) (b := b2) (by rw [hd]; rfl)
          | 3, hj => simp [u8s] at hj; subst hj; exact drop_cell hr (i := 3) (b := b3) (by rw [hd]; rfl)
          | j + 4, hj => simp [u8s] at hj
        rw [← hoff] at k4 k5 k6 k7
        have hstep : crcRaw q (l.take (k + 8)) = crcRaw c' [b0, b1, b2, b3, b4, b5, b6, b7] := by
          rw [List.take_add, hd, crcRaw_append, he.out]; rfl
        have hle := leN_lt [b0, b1, b2, b3]
        have hle : leN [b0, b1, b2, b3] < 4294967296 := by simpa using hle
        have hxx := u32_xor_nat c' (leN [b0, b1, b2, b3]) hc' hle
        have hx : c' ^^^ leN [b0, b1, b2, b3] < 4294967296 := Nat.xor_lt_two_pow (n := 32) hc' hle
        rw [crcRaw8 c' _ b0 b1 b2 b3 b4 b5 b6 b7 rfl] at hstep
        have HLE := Lib.hid (crcLe_any g off m ca b0 b1 b2 b3 wr hr4 (by omega))
        clear hr4 hr hd hoff
        generalize leN [b0, b1, b2, b3] = le at hxx hx hstep HLE hle
        generalize c' ^^^ le = x at hxx hx hstep
        have l4 := b4.toNat_lt
        have l5 := b5.toNat_lt
        have l6 := b6.toNat_lt
        have l7 := b7.toNat_lt
        generalize b4.toNat = y4 at *
        generalize b5.toNat = y5 at *
        generalize b6.toNat = y6 at *
        generalize b7.toNat = y7 at *
        simp only [Nat.reducePow] at l4 l5 l6 l7
        have hbt : Blk wr t cs T := by rw [Blk, hb.out.block t HT.out.lt]; exact HT.out
        have t7 : wr.cell? ⟨t, y7, none⟩ = some (.int .u32 (crcN 1 y7)) := by have := HTT.out.at 0 y7 (by omega) l7; rw [Nat.zero_mul, Nat.zero_add] at this; rw [hbt.cell]; exact this
        have t6 : wr.cell? ⟨t, 256 + y6, none⟩ = some (.int .u32 (crcN 2 y6)) := by rw [hbt.cell]; exact HTT.out.at 1 y6 (by omega) l6
        have t5 : wr.cell? ⟨t, 512 + y5, none⟩ = some (.int .u32 (crcN 3 y5)) := by rw [hbt.cell]; exact HTT.out.at 2 y5 (by omega) l5
        have t4 : wr.cell? ⟨t, 768 + y4, none⟩ = some (.int .u32 (crcN 4 y4)) := by rw [hbt.cell]; exact HTT.out.at 3 y4 (by omega) l4
        have t3 : wr.cell? ⟨t, 1024 + x / 16777216, none⟩ = some (.int .u32 (crcN 5 (x / 16777216))) := by rw [hbt.cell]; exact HTT.out.at 4 _ (by omega) (by omega)
        have t2 : wr.cell? ⟨t, 1280 + x / 65536 % 256, none⟩ = some (.int .u32 (crcN 6 (x / 65536 % 256))) := by rw [hbt.cell]; exact HTT.out.at 5 _ (by omega) (by omega)
        have t1 : wr.cell? ⟨t, 1536 + x / 256 % 256, none⟩ = some (.int .u32 (crcN 7 (x / 256 % 256))) := by rw [hbt.cell]; exact HTT.out.at 6 _ (by omega) (by omega)
        have t0 : wr.cell? ⟨t, 1792 + x % 256, none⟩ = some (.int .u32 (crcN 8 (x % 256))) := by rw [hbt.cell]; exact HTT.out.at 7 _ (by omega) (by omega)
        have a0 := u32_mask255 x hx
        have a1 : bits .and .u32 ((x : Int) / 256) 255 = ((x / 256 % 256 : Nat) : Int) := u32_mask255 (x / 256) (by omega)
        have a2 : bits .and .u32 ((x : Int) / 65536) 255 = ((x / 65536 % 256 : Nat) : Int) := u32_mask255 (x / 65536) (by omega)
        have g7 : crcN 1 y7 < 4294967296 := crcN_lt _ (by omega)
        have g6 : crcN 2 y6 < 4294967296 := crcN_lt _ (by omega)
        have g5 : crcN 3 y5 < 4294967296 := crcN_lt _ (by omega)
        have g4 : crcN 4 y4 < 4294967296 := crcN_lt _ (by omega)
        have g3 : crcN 5 (x / 16777216) < 4294967296 := crcN_lt _ (by omega)
        have g2 : crcN 6 (x / 65536 % 256) < 4294967296 := crcN_lt _ (by omega)
        have g1 : crcN 7 (x / 256 % 256) < 4294967296 := crcN_lt _ (by omega)
        have g0 : crcN 8 (x % 256) < 4294967296 := crcN_lt _ (by omega)
        generalize crcN 1 y7 = z7 at *
        generalize crcN 2 y6 = z6 at *
        generalize crcN 3 y5 = z5 at *
        generalize crcN 4 y4 = z4 at *
        generalize crcN 5 (x / 16777216) = z3 at *
        generalize crcN 6 (x / 65536 % 256) = z2 at *
        generalize crcN 7 (x / 256 % 256) = z1 at *
        generalize crcN 8 (x % 256) = z0 at *
        have x1 := u32_xor_nat z7 z6 g7 g6
        have p1 : z7 ^^^ z6 < 4294967296 := Nat.xor_lt_two_pow (n := 32) g7 g6
        generalize z7 ^^^ z6 = s1 at *
        have x2 := u32_xor_nat s1 z5 p1 g5
        have p2 : s1 ^^^ z5 < 4294967296 := Nat.xor_lt_two_pow (n := 32) p1 g5
        generalize s1 ^^^ z5 = s2 at *
        have x3 := u32_xor_nat s2 z4 p2 g4
        have p3 : s2 ^^^ z4 < 4294967296 := Nat.xor_lt_two_pow (n := 32) p2 g4
        generalize s2 ^^^ z4 = s3 at *
        have x4 := u32_xor_nat s3 z3 p3 g3
        have p4 : s3 ^^^ z3 < 4294967296 := Nat.xor_lt_two_pow (n := 32) p3 g3
        generalize s3 ^^^ z3 = s4 at *
        have x5 := u32_xor_nat s4 z2 p4 g2
        have p5 : s4 ^^^ z2 < 4294967296 := Nat.xor_lt_two_pow (n := 32) p4 g2
        generalize s4 ^^^ z2 = s5 at *
        have x6 := u32_xor_nat s5 z1 p5 g1
        have p6 : s5 ^^^ z1 < 4294967296 := Nat.xor_lt_two_pow (n := 32) p5 g1
        generalize s5 ^^^ z1 = s6 at *
        have x7 := u32_xor_nat s6 z0 p6 g0
        have p7 : s6 ^^^ z0 < 4294967296 := Nat.xor_lt_two_pow (n := 32) p6 g0
        generalize s6 ^^^ z0 = s7 at *
        have HS := Lib.hid hstep
        have HBT := Lib.hid hbt
        clear hstep hbt g7 g6 g5 g4 g3 g2 g1 g0 p1 p2 p3 p4 p5 p6
        have i7 : (y7 : Int) < 256 := by omega
        have i6 : (y6 : Int) < 256 := by omega
        have i5 : (y5 : Int) < 256 := by omega
        have i4 : (y4 : Int) < 256 := by omega
        have i3 : (x : Int) / 16777216 < 256 := by omega
        have i2 : ((x / 65536 % 256 : Nat) : Int) < 256 := by omega
        have i1 : ((x / 256 % 256 : Nat) : Int) < 256 := by omega
        have i0 : ((x % 256 : Nat) : Int) < 256 := by omega
        have hm7 : (7 : Int) < m := by omega
        have hm6 : (6 : Int) < m := by omega
        have hm5 : (5 : Int) < m := by omega
        have hm4 : (4 : Int) < m := by omega
        go_wp2_with (go_at_call 208; refine HLE.out.mono ?_; rintro e w' ⟨rfl, rfl⟩)
        have hm8 : ¬ ca = 8 := by omega
        have hs1 : (8 : Int) ≤ m := by omega
        have hs2 : (m : Int) ≤ ca := by omega
        refine wp_region_below (by kernel_rfl) (by kernel_rfl) fun σ _ f hf hcell hmk => ?_
        have hgw : g < wr.heap.size := Nat.lt_of_lt_of_le hg hb.out.size
        have htw : t < wr.heap.size := HBT.out.lt
        have hcell : ∀ x b o, b < wr.heap.size → (f x).cell? ⟨b, o, none⟩ = wr.cell? ⟨b, o, none⟩ := fun x b o h => hcell x b o h
        simp only [List.append_eq, List.cons_append, List.nil_append]
        repeat (go_big_quiet_step (fail))
        refine wpQuiet_nil ?_
        rintro _ ⟨x', rfl⟩
        have hb' := below_up (hb.out.drew) (hf x')
        have HB' := Lib.hid hb'
        clear hb' hf hcell hmk k4 k5 k6 k7 t7 t6 t5 t4 t3 t2 t1 t0 a0 a1 a2 x1 x2 x3 x4 x5 x6 x7 hxx i7 i6 i5 i4 i3 i2 i1 i0
        go_wp2
        go_roundw
        case rel =>
          have hmk' : Hid ((m - 8) + (k + 8) = l.length ∧ off + 8 = o + (k + 8)) := Lib.hid (by have := hmk.out; omega)
          first
            | exact ⟨k + 8, m - 8, ca - 8, off + 8, s7, rfl, rfl, by omega, by omega, by omega, p7, Lib.hid HS.out.symm, hmk', HB'⟩
            | ((repeat apply Exists.intro); exact ⟨⟨k + 8, m - 8, ca - 8, off + 8, s7, rfl, rfl, by omega, by omega, by omega, p7, Lib.hid HS.out.symm, hmk', HB'⟩, rfl⟩)
        case measure => simp [lenOf]; omega
      · have hz := not32x c' hc'
        have hz2 := not32 c' hc'
        generalize hzz : c' ^^^ 4294967295 = z at hz hz2
        have HZ := Lib.hid hzz
        have hm1 : ((m : Int) == 0) = false := by simp; omega
        clear hzz
        go_wp2_with fail
        have hr : wr.rangeAt g off (u8s (l.drop k)) := by
          have hr := rangeAt_below hb.out HL.out hg
          intro j y hj
          have := hr (k + j) y (by rw [u8s, List.map_drop, List.getElem?_drop] at hj; exact hj)
          rw [hmk.out.2, Nat.add_assoc]; exact this
        have hbt : Blk wr t cs T := by rw [Blk, hb.out.block t HT.out.lt]; exact HT.out
        have hml' : m = (l.drop k).length := by rw [List.length_drop]; have := hmk.out.1; omega
        have HC := Lib.hid (simpleUpdate_any t cs T g off ca z (l.drop k) wr hbt HTT.out.1 hr (by omega) hz2)
        rw [← hml'] at HC
        have hfin : crcRaw (z ^^^ 4294967295) (l.drop k) = crcRaw q l := by
          rw [← HZ.out, Nat.xor_assoc, Nat.xor_self, Nat.xor_zero, he.out, ← crcRaw_append, List.take_append_drop]
        rw [hfin] at HC
        refine HC.out.mono ?_
        rintro e w' ⟨rfl, rfl⟩
        go_wp2
        go_ret
        exact ⟨by first | rfl | (rw [← HQ.out]; rfl) | (rw [HQ.out]; rfl), hb.out⟩
  · have hb := Lib.hid (Below.refl w.heap.size w)
    by_cases h0 : l.length = 0
    · obtain rfl : l = [] := List.eq_nil_of_length_eq_zero h0
      clear h0
      go_wp2
      go_ret
      refine ⟨?_, Below.refl _ _⟩
      have : crcRaw (c ^^^ 4294967295) [] ^^^ 4294967295 = c := by
        show c ^^^ 4294967295 ^^^ 4294967295 = c
        rw [Nat.xor_assoc, Nat.xor_self, Nat.xor_zero]
      rw [this]; rfl
    · have hl0 : ((l.length : Int) == 0) = false := by rw [beq_eq_false_iff_ne]; omega
      have hl1 : ¬ (16 : Int) ≤ l.length := by omega
      have HC := Lib.hid (simpleUpdate_any t cs T g o cap c l w HT.out HTT.out.1 HL.out hlen hc)
      go_wp2_with fail
      refine HC.out.mono ?_
      rintro e w' ⟨rfl, rfl⟩
      go_wp2
      go_ret
      exact ⟨rfl, Below.refl _ _⟩
end Go.Proofs.Zip
namespace Go.Proofs.Zip
open Go Go.RowKit
/-- The checksum, carried on. -/
def crcUpd (c : Nat) (l : List UInt8) : Nat := crcRaw (c ^^^ 4294967295) l ^^^ 4294967295
theorem crcUpd_lt (c : Nat) (l : List UInt8) (h : c < 4294967296) : crcUpd c l < 4294967296 := not32 _ (crcRaw_lt l (not32 c h))
theorem crcUpd_nil (l : List UInt8) : crcUpd 0 l = crc l := by
  unfold crcUpd crc; rw [Nat.zero_xor]
theorem crcUpd_append (a b : List UInt8) : crcUpd (crc a) b = crc (a ++ b) := by
  unfold crcUpd crc
  rw [Nat.xor_assoc, Nat.xor_self, Nat.xor_zero, crcRaw_append]
set_option maxRecDepth 100000 in
theorem updIEEE_any (g o cap c : Nat) (l : List UInt8) (w : World) (hl : w.rangeAt g o (u8s l)) (hg : g < w.heap.size) (hcap : l.length ≤ cap) (hlen : l.length ≤ 4611686018427387904) (hc : c < 4294967296) :
    Calls Tryz.prog 205 #[.int .u32 c, .slice (some ⟨g, o, none⟩) l.length cap] w fun e w' => e = .returned (.int .u32 (crcUpd c l)) ∧ Below w.heap.size w w' := by
  go_enter Tryz.func205, Tryz.ntmps205
  have HL := Lib.hid hl
  clear hl
  go_wp2_with fail
  refine (makeTab_any w).mono ?_
  rintro e w1 ⟨t, cs, T, rfl, ht, hb, hT, hbl⟩
  have HC := Lib.hid (slicing_any t cs T g o cap c l w1 hb hT (rangeAt_below hbl HL.out hg) (Nat.lt_of_lt_of_le hg hbl.size) hcap hlen hc)
  have HBL := Lib.hid hbl
  clear hb hT hbl ht
  go_wp2_with fail
  refine HC.out.mono ?_
  rintro e w2 ⟨rfl, hb2⟩
  have HB2 := Lib.hid hb2
  clear hb2
  go_wp2
  go_ret
  exact ⟨rfl, below_up HBL.out HB2.out⟩
abbrev IsHash (w : World) (b c : Nat) : Prop := Blk w b #[.int .u32 c] 159
set_option maxRecDepth 100000 in
theorem hashWrite_any (b g o cap c : Nat) (l : List UInt8) (w : World) (hb : IsHash w b c) (hl : w.rangeAt g o (u8s l)) (hg : g < w.heap.size) (hcap : l.length ≤ cap) (hlen : l.length ≤ 4611686018427387904) (hc : c < 4294967296) :
    Calls Tryz.prog 204 #[.pointer (some ⟨b, 0, none⟩), .slice (some ⟨g, o, none⟩) l.length cap] w fun e w' => e = .returned (.tuple #[.int .i64 l.length, .nilIface]) ∧ IsHash w' b (crcUpd c l) ∧ Fr (· = b) w w' := by
  go_enter Tryz.func204, Tryz.ntmps204
  have c0 : w.cell? ⟨b, 0, none⟩ = some (.int .u32 c) := hb.cell 0
  have HC := Lib.hid (updIEEE_any g o cap c l w hl hg hcap hlen hc)
  have HB := Lib.hid hb
  clear hl hb
  go_wp2_with fail
  refine HC.out.mono ?_
  rintro e w1 ⟨rfl, hb1⟩
  have h1 := below_blk hb1 HB.out
  have c1 : w1.cell? ⟨b, 0, none⟩ = some (.int .u32 c) := h1.cell 0
  have f1 : w1.frozen? ⟨b, 0, none⟩ = false := h1.frozen 0
  have H1 := Lib.hid h1
  have HB1 := Lib.hid hb1
  clear h1 hb1 HC
  go_wp2
  go_ret2
  exact ⟨rfl, H1.out.set 0 _, (Fr.of_below (S := (· = b)) HB1.out).setCell (fun _ => rfl) _⟩
set_option maxRecDepth 100000 in
theorem hashSum_any (b c : Nat) (w : World) (hb : IsHash w b c) : Calls Tryz.prog 130 #[.pointer (some ⟨b, 0, none⟩)] w fun e w' => e = .returned (.int .u32 c) ∧ w = w' := by
  go_enter Tryz.func130, Tryz.ntmps130
  have c0 : w.cell? ⟨b, 0, none⟩ = some (.int .u32 c) := hb.cell 0
  go_wp2
  go_ret
  exact ⟨rfl, rfl⟩
end Go.Proofs.Zip
namespace Go.Proofs.Zip
open Go Go.RowKit
/-- Where the errors lie that are told by variables. -/
structure Errs where
  fmt : Addr
  eof : Addr
  alg : Addr
  chk : Addr
  unx : Addr
  ins : Addr
structure ErrsApart (E : Errs) : Prop where
  fe : E.fmt ≠ E.eof
  fa : E.fmt ≠ E.alg
  fc : E.fmt ≠ E.chk
  fu : E.fmt ≠ E.unx
  fi : E.fmt ≠ E.ins
  ea : E.eof ≠ E.alg
  ec : E.eof ≠ E.chk
  eu : E.eof ≠ E.unx
  ei : E.eof ≠ E.ins
  ac : E.alg ≠ E.chk
  au : E.alg ≠ E.unx
  cu : E.chk ≠ E.unx
  ui : E.unx ≠ E.ins
/-- What the package's variables hold, all of it among the first N0 blocks. -/
structure Env (w : World) (N0 : Nat) (E : Errs) : Prop where
  fmt : SenL w N0 1 E.fmt
  eof : SenL w N0 5 E.eof
  alg : SenL w N0 2 E.alg
  chk : SenL w N0 3 E.chk
  unx : SenL w N0 4 E.unx
  ins : SenL w N0 0 E.ins
  tabs : Lib.Utf8Tabs 12 13 w
  n1 : 12 < N0
  n2 : 13 < N0
  le : N0 ≤ w.heap.size
  apart : ErrsApart E
theorem Env.fr {S : Nat → Prop} {w w' : World} {N0 : Nat} {E : Errs} (h : Env w N0 E) (f : Fr S w w') (hS : ∀ b, S b → N0 ≤ b) : Env w' N0 E := by
  have key : ∀ b, b < N0 → ¬ S b := fun b hb hs => Nat.not_lt_of_le (hS b hs) hb
  have hle := h.le
  refine ⟨h.fmt.fr f hS, h.eof.fr f hS, h.alg.fr f hS, h.chk.fr f hS, h.unx.fr f hS, h.ins.fr f hS, ⟨fun c hc => ?_, fun i hi => ⟨?_, ?_⟩⟩, h.n1, h.n2, Nat.le_trans h.le f.size, h.apart⟩
  · rw [f.cell (Nat.lt_of_lt_of_le h.n1 hle) (key _ h.n1)]; exact h.tabs.1 c hc
  · rw [f.cell (Nat.lt_of_lt_of_le h.n2 hle) (key _ h.n2)]; exact (h.tabs.2 i hi).1
  · rw [f.cell (Nat.lt_of_lt_of_le h.n2 hle) (key _ h.n2)]; exact (h.tabs.2 i hi).2
theorem Env.below {w w' : World} {N0 : Nat} {E : Errs} (h : Env w N0 E) (f : Below w.heap.size w w') : Env w' N0 E := h.fr (Fr.of_below (S := fun _ => False) f) (fun _ h => h.elim)
/-- A buffered reader: its blocks, and what it reads. -/
structure Rdr where
  bb : Nat
  q : Nat
  s : Nat
  a : Nat
  base : Int
  n : Int
  D : List UInt8
  lim : Nat
def Rdr.has (R : Rdr) (b : Nat) : Prop := b = R.bb ∨ b = R.q ∨ b = R.s
def RB (R : Rdr) (E : Errs) (w : World) (l : List UInt8) : Prop := IsBufd w R.bb R.q R.s R.a R.base R.n R.D R.lim E.eof l
/-- The reader's blocks lie apart, behind the first N0 ones. -/
structure Rdr.Ok (R : Rdr) (N0 : Nat) : Prop where
  d5 : R.bb ≠ R.q
  d6 : R.bb ≠ R.s
  d7 : R.bb ≠ R.a
  d8 : R.q ≠ R.s
  d9 : R.q ≠ R.a
  d10 : R.s ≠ R.a
  nb : N0 ≤ R.bb
  nq : N0 ≤ R.q
  ns : N0 ≤ R.s
  lim : R.lim ≤ 4611686018427387904
  len : R.D.length ≤ 4611686018427387904
theorem Rdr.Ok.low {R : Rdr} {N0 : Nat} (h : R.Ok N0) : ∀ b, R.has b → N0 ≤ b := by
  rintro b (h1 | h1 | h1)
  · rw [h1]; exact h.nb
  · rw [h1]; exact h.nq
  · rw [h1]; exact h.ns
theorem RB.fr {S : Nat → Prop} {R : Rdr} {E : Errs} {w w' : World} {l : List UInt8} (h : RB R E w l) (f : Fr S w w') (hS : ∀ b, R.has b ∨ b = R.a → ¬ S b) : RB R E w' l := by
  unfold RB at *
  exact h.fr f (hS _ (.inl (.inl rfl))) (hS _ (.inl (.inr (.inl rfl)))) (hS _ (.inl (.inr (.inr rfl)))) (hS _ (.inr rfl))
theorem IsBufd.lts {w : World} {bb q s a : Nat} {base n : Int} {D : List UInt8} {lim : Nat} {eEOF : Addr} {l : List UInt8} (h : IsBufd w bb q s a base n D lim eEOF l) : bb < w.heap.size ∧ q < w.heap.size ∧ s < w.heap.size ∧ a < w.heap.size := by
  obtain ⟨r, u, e, cells, off, l1, hB, hl⟩ := h
  obtain ⟨lb, lr, ho⟩ := hB.own
  exact ⟨ho.lt, hB.buf.lt, hB.part.lt, hB.text.lt⟩
theorem RB.lt {R : Rdr} {E : Errs} {w : World} {l : List UInt8} (h : RB R E w l) : ∀ b, R.has b ∨ b = R.a → b < w.heap.size := by
  obtain ⟨h1, h2, h3, h4⟩ := IsBufd.lts h
  rintro b ((h | h | h) | h) <;> subst h <;> assumption
theorem Rdr.Ok.apart {R : Rdr} {N0 g : Nat} {w : World} {E : Errs} (h : R.Ok N0) (he : Env w N0 E) (hN : N0 ≤ g) (hg : ¬ (R.has g ∨ g = R.a)) : Apart g R.bb R.q R.s R.a E.eof := by
  have e1 := he.eof.lt0
  have e2 := he.eof.elt0
  have n1 := h.nb
  have n2 := h.nq
  refine ⟨fun e => hg (.inl (.inl e)), fun e => hg (.inl (.inr (.inl e))), fun e => hg (.inl (.inr (.inr e))), fun e => hg (.inr e), h.d5, h.d6, h.d7, h.d8, h.d9, h.d10, ?_, ?_, ?_, ?_⟩
  · intro e; rw [e] at hN; exact Nat.not_lt_of_le hN e1
  · intro e; rw [e] at n2; exact Nat.not_lt_of_le n2 e1
  · intro e; rw [e] at n1; exact Nat.not_lt_of_le n1 e1
  · intro e; rw [e] at n1; exact Nat.not_lt_of_le n1 e2
theorem rbFull_any (R : Rdr) (E : Errs) (N0 g len cap : Nat) (l : List UInt8) (cur : Array Value) (t : TypeId) (w : World) (hR : R.Ok N0) (he : Env w N0 E) (hb : RB R E w l) (hg : Blk w g cur t) (hfit : len ≤ cur.size) (hcap : len ≤ cap) (hlen : len ≤ 4611686018427387904) (hN : N0 ≤ g) (hgR : ¬ (R.has g ∨ g = R.a)) :
    Calls Tryz.prog 115 #[bufv R.bb, .slice (some ⟨g, 0, none⟩) len cap] w fun e w' => e = .returned (.tuple #[.int .i64 (l.take len).length, fullErr len l E.eof E.unx]) ∧
      Blk w' g (put cur 0 (l.take len)) t ∧ RB R E w' (l.drop len) ∧ Fr (fun b => b = g ∨ R.has b) w w' := by
  refine (readFull_any R.bb R.q R.s R.a g len cap R.lim R.base R.n R.D l cur t E.eof E.unx w hb hg hfit N0 he.eof he.unx ?_ hcap hlen hR.lim hR.len (hR.apart he hN hgR)).mono ?_
  · rintro b (h | h)
    · rw [h]; exact hN
    · exact hR.low b h
  · rintro e w' ⟨h1, h2, h3, h4⟩
    exact ⟨h1, h2, h3, h4⟩
end Go.Proofs.Zip
namespace Go.Proofs.Zip
open Go Go.RowKit
theorem u8s_sub' (L : List UInt8) (o k : Nat) : ((u8s L).drop o).take k = u8s ((L.drop o).take k) := by simp [u8s, List.map_drop, List.map_take]
/-- Two bytes, four bytes of a text, as numbers. -/
def n2 (L : List UInt8) (o : Nat) : Nat := leN ((L.drop o).take 2)
def n4 (L : List UInt8) (o : Nat) : Nat := leN ((L.drop o).take 4)
theorem two_of {L : List UInt8} {o : Nat} (h : o + 2 ≤ L.length) : ∃ a b, (L.drop o).take 2 = [a, b] := by
  refine ⟨L[o], L[o + 1], ?_⟩
  rw [List.drop_eq_getElem_cons (by omega), List.drop_eq_getElem_cons (by omega)]; rfl
theorem four_of {L : List UInt8} {o : Nat} (h : o + 4 ≤ L.length) : ∃ a b c d, (L.drop o).take 4 = [a, b, c, d] := by
  refine ⟨L[o], L[o + 1], L[o + 2], L[o + 3], ?_⟩
  rw [List.drop_eq_getElem_cons (by omega), List.drop_eq_getElem_cons (by omega), List.drop_eq_getElem_cons (by omega), List.drop_eq_getElem_cons (by omega)]; rfl
theorem n2_lt (L : List UInt8) (o : Nat) : n2 L o < 65536 := by
  have h := leN_lt ((L.drop o).take 2)
  have hl : ((L.drop o).take 2).length ≤ 2 := by simp; omega
  unfold n2
  exact Nat.lt_of_lt_of_le h (Nat.pow_le_pow_right (by decide) hl)
theorem n4_lt (L : List UInt8) (o : Nat) : n4 L o < 4294967296 := by
  have h := leN_lt ((L.drop o).take 4)
  have hl : ((L.drop o).take 4).length ≤ 4 := by simp; omega
  unfold n4
  exact Nat.lt_of_lt_of_le h (Nat.pow_le_pow_right (by decide) hl)
/-- The readBuf at v is at o of the text L, which lies in block g. -/
structure RS (w : World) (v g o : Nat) (L : List UInt8) (t : TypeId) : Prop where
  rb : ∃ p, IsRb w v p (L.length - o) (L.length - o) ∧ (o < L.length → p = some ⟨g, o, none⟩)
  buf : Blk w g (u8s L).toArray t
theorem RS.fr {S : Nat → Prop} {w w' : World} {v g o : Nat} {L : List UInt8} {t : TypeId} (h : RS w v g o L t) (f : Fr S w w') (hv : ¬ S v) (hg : ¬ S g) : RS w' v g o L t := by
  obtain ⟨p, h1, h2⟩ := h.rb
  exact ⟨⟨p, f.blk h1 hv, h2⟩, f.blk h.buf hg⟩
theorem RS.u16 {w : World} {v g o : Nat} {L : List UInt8} {t : TypeId} (h : RS w v g o L t) (hvg : v ≠ g) (ho : o + 2 ≤ L.length) :
    Calls Tryz.prog 90 #[.pointer (some ⟨v, 0, none⟩)] w fun e w' => e = .returned (.int .u16 (n2 L o)) ∧ RS w' v g (o + 2) L t ∧ Fr (· = v) w w' := by
  obtain ⟨p, hp, hpo⟩ := h.rb
  obtain rfl := hpo (by omega)
  obtain ⟨a, b, hab⟩ := two_of ho
  refine (rb16_any v g o (L.length - o) (L.length - o) a b w hp (h.buf.range (xs := u8s [a, b]) ?_) (by omega) (Nat.le_refl _)).mono ?_
  · have := u8s_sub' L o 2
    rw [hab] at this
    simpa using this
  · rintro e w' ⟨rfl, h2, h3⟩
    refine ⟨by rw [n2, hab], ⟨⟨_, by rw [Nat.sub_sub] at h2; exact h2, fun hlt => adv_lt (by omega)⟩, h3.blk h.buf (fun e => hvg e.symm)⟩, h3⟩
theorem RS.u32 {w : World} {v g o : Nat} {L : List UInt8} {t : TypeId} (h : RS w v g o L t) (hvg : v ≠ g) (ho : o + 4 ≤ L.length) :
    Calls Tryz.prog 89 #[.pointer (some ⟨v, 0, none⟩)] w fun e w' => e = .returned (.int .u32 (n4 L o)) ∧ RS w' v g (o + 4) L t ∧ Fr (· = v) w w' := by
  obtain ⟨p, hp, hpo⟩ := h.rb
  obtain rfl := hpo (by omega)
  obtain ⟨a, b, c, d, hab⟩ := four_of ho
  refine (rb32_any v g o (L.length - o) (L.length - o) a b c d w hp (h.buf.range (xs := u8s [a, b, c, d]) ?_) h.buf.lt (by omega) (Nat.le_refl _)).mono ?_
  · have := u8s_sub' L o 4
    rw [hab] at this
    simpa using this
  · rintro e w' ⟨rfl, h2, h3⟩
    refine ⟨by rw [n4, hab], ⟨⟨_, by rw [Nat.sub_sub] at h2; exact h2, fun hlt => adv_lt (by omega)⟩, h3.blk h.buf (fun e => hvg e.symm)⟩, h3⟩
/-- The readBuf as the walk reads it. -/
theorem RS.at {w : World} {v g o : Nat} {L : List UInt8} {t : TypeId} (h : RS w v g o L t) (n : Nat) (hn : L.length - o = n) (ho : o < L.length) : w.cell? ⟨v, 0, none⟩ = some (.slice (some ⟨g, o, none⟩) n n) ∧ w.frozen? ⟨v, 0, none⟩ = false := by
  obtain ⟨p, hp, hpo⟩ := h.rb
  obtain rfl := hpo ho
  subst hn
  exact ⟨hp.cell 0, hp.frozen 0⟩
theorem RS.skip {w : World} {v g o : Nat} {L : List UInt8} {t : TypeId} (h : RS w v g o L t) (hvg : v ≠ g) (o' n : Nat) (hn : L.length - o' = n) : RS (w.setCell ⟨v, 0, none⟩ (.slice (some ⟨g, o', none⟩) n n)) v g o' L t := by
  obtain ⟨p, hp, hpo⟩ := h.rb
  subst hn
  exact ⟨⟨_, hp.set 0 _, fun _ => rfl⟩, h.buf.set_ne (fun e => hvg e.symm) _⟩
theorem put_all (cs : Array Value) (L : List UInt8) (h : L.length = cs.size) : put cs 0 L = (u8s L).toArray := by
  apply Array.toList_inj.1
  simp [put, h]
theorem nilAhead_text (n a : Nat) (w : World) : (nilAhead (n + 1) 59 (.pointer (some ⟨a, 0, none⟩)) "ReadAt").run Tryz.prog w = .ok (some false) w := by kernel_rfl
set_option maxRecDepth 100000 in
set_option maxHeartbeats 2000000 in
theorem body_any (f a off N0 : Nat) (fc : Array Value) (D L : List UInt8) (E : Errs) (w : World) (hf : Blk w f fc 80) (h20 : fc[20]? = some (textv a)) (h21 : fc[21]? = some (.int .i64 off)) (ha : IsText w a D) (hE : Env w N0 E)
    (hL : (D.drop off).take 30 = L) (hlen : L.length = 30) (hsig : n4 L 0 = 67324752) (hD : D.length ≤ 4611686018427387904) :
    Calls Tryz.prog 61 #[.pointer (some ⟨f, 0, none⟩)] w fun e w' => e = .returned (.tuple #[.int .i64 (30 + n2 L 26 + n2 L 28 : Nat), .nilIface]) ∧ Below w.heap.size w w' := by
  go_enter Tryz.func61, Tryz.ntmps61
  have c20 : w.cell? ⟨f, 20, none⟩ = some (textv a) := by rw [hf.cell]; exact h20
  have c21 : w.cell? ⟨f, 21, none⟩ = some (.int .i64 off) := by rw [hf.cell]; exact h21
  have hflt := hf.lt
  have hna := fun n w => nilAhead_text n a w
  have HF := Lib.hid hf
  have HA := Lib.hid ha
  have HE := Lib.hid hE
  have HL := Lib.hid hL
  have HN := Lib.hid hlen
  have hsg : ((n4 L 0 : Nat) : Int) = 67324752 := by omega
  have HG := Lib.hid hsg
  have b26 := n2_lt L 26
  have b28 := n2_lt L 28
  clear h20 h21 hf ha hE hL hlen hsig hsg
  go_wp2_with (refine wpList_alloc_big rfl 192 rfl 30 (by kernel_rfl) ?_)
  intro cs hcs
  have HC : Hid (∀ w', Fr (fun _ => False) (w.alloc (.cells cs 192)) w' → Calls Tryz.prog 184 #[.pointer (some ⟨a, 0, none⟩), .slice (some ⟨w.heap.size, 0, none⟩) 30 30, .int .i64 off] w' fun e w'' => e = .returned (.tuple #[.int .i64 30, .nilIface]) ∧ Hid (Blk w'' w.heap.size (u8s L).toArray 192 ∧ Below w.heap.size w w'')) := by
    refine Lib.hid fun w' hw' => ?_
    have hE1 := HE.out.fr (hw'.mono (T := fun _ => False) (fun _ _ h => h) |> fun h => (Fr.refl (fun _ => False) w).alloc (.cells cs 192) |>.trans2 h (U := fun _ => False) (fun _ h => h) (fun _ h => h)) (fun _ h => h.elim)
    have hlt : 30 ≤ (D.drop off).length := by have := congrArg List.length HL.out; rw [HN.out, List.length_take] at this; omega
    have hne := HE.out.eof.lt0
    have hle := HE.out.le
    refine (readAt_all a w.heap.size 0 30 30 off D cs 192 E.eof w' (hw'.blk (HA.out.alloc _) id) (hw'.blk (Blk.new w cs _) id) (by omega) hE1.eof.sen (by omega) (by omega) hD (by omega) .nilIface (by rw [if_neg (by omega)])).mono ?_
    rintro e w'' ⟨rfl, h1, h2⟩
    rw [HL.out] at h1 ⊢
    rw [HN.out]
    refine ⟨rfl, Lib.hid ⟨by rw [put_all cs L (by have := HN.out; omega)] at h1; exact h1, ?_⟩⟩
    exact (((Fr.refl (fun _ => False) w).alloc (.cells cs 192)).trans2 hw' (fun _ h => h) (fun _ h => h)).trans2 h2 (U := (· = w.heap.size)) (fun _ h => h.elim) (fun _ h => h) |>.below (Nat.le_refl _) (fun i hi h => by omega)
  go_wp2_with fail
  go_region_with (go_at_call 184; refine (HC.out _ ?hh).mono ?_; (case hh => exact (Fr.refl _ _).drew); rintro e w1 ⟨rfl, hw1⟩)
  all_goals (
    go_wp2_with fail
    have hg1 := hw1.out.1.lt
    have hvg : w1.heap.size ≠ w.heap.size := by omega
    have R0 : RS (w1.alloc (.cells #[.slice (some ⟨w.heap.size, 0, none⟩) 30 30] 194)) w1.heap.size w.heap.size 0 L 192 := ⟨⟨_, by have := HN.out; rw [this]; exact Blk.new _ _ _, fun _ => rfl⟩, hw1.out.1.alloc _⟩
    refine (R0.u32 hvg (by have := HN.out; omega)).mono ?_
    rintro e w2 ⟨rfl, h2, f2⟩
    have hsg := HG.out
    obtain ⟨c2, z2⟩ := h2.at 26 (by have := HN.out; omega) (by have := HN.out; omega)
    have hb2 : Below w.heap.size w w2 := ((hw1.out.2.alloc (by omega) _)).trans (f2.below (by rw [World.size_alloc]; omega) (fun i hi e => by omega))
    have hz2 : w1.heap.size < w2.heap.size := by have := f2.size; rw [World.size_alloc] at this; omega
    have HB2 := Lib.hid hb2
    have H2 := Lib.hid h2
    have HV := Lib.hid hvg
    clear h2 f2 hvg hb2 R0 HC
    go_wp2_with fail
    have R3 := H2.out.skip HV.out 26 4 (by have := HN.out; omega)
    refine (R3.u16 HV.out (by have := HN.out; omega)).mono ?_
    rintro e w3 ⟨rfl, h3, f3⟩
    have hb3 : Below w.heap.size w w3 := (HB2.out.setCell (by show w.heap.size ≤ w1.heap.size; omega) _).trans (f3.below (Nat.le_trans (by omega) ((Fr.refl (fun _ => True) w2).setCell (fun _ => trivial) _).size) (fun i hi e => by omega))
    have HB3 := Lib.hid hb3
    have H3 := Lib.hid h3
    clear h3 f3 hb3 R3
    go_wp2_with fail
    refine (H3.out.u16 HV.out (by have := HN.out; omega)).mono ?_
    rintro e w4 ⟨rfl, h4, f4⟩
    have hz3 := HB3.out.size
    have hb4 : Below w.heap.size w w4 := HB3.out.trans (f4.below hz3 (fun i hi e => by omega))
    have HB4 := Lib.hid hb4
    clear h4 f4 hb4
    go_wp2
    go_ret2
    exact ⟨by first | (simp; done) | (simp; omega), HB4.out⟩)
end Go.Proofs.Zip
namespace Go.Proofs.Zip
open Go Go.RowKit
/-! Where the end of an archive is found: plain. -/
theorem byteAt_drop (D : List UInt8) (s i : Nat) : byteAt (D.drop s) i = byteAt D (s + i) := by simp [byteAt]
theorem sigAt_drop (D : List UInt8) (s i : Nat) : sigAt (D.drop s) i ↔ sigAt D (s + i) := by simp [sigAt, byteAt_drop, Nat.add_assoc]
theorem byteAt_of_getElem? {l : List UInt8} {i : Nat} {x : UInt8} (h : l[i]? = some x) : byteAt l i = x.toNat := by simp [byteAt, h]
theorem sigAt_iff (l : List UInt8) (i : Nat) : sigAt l i ↔ (l.drop i).take 4 = sigEnd := by
  constructor
  · rintro ⟨h0, h1, h2, h3⟩
    have key : ∀ j c, byteAt l j = c → 0 < c → ∃ x : UInt8, l[j]? = some x ∧ x.toNat = c := by
      intro j c hj hc
      cases hx : l[j]? with
      | none => simp [byteAt, hx] at hj; omega
      | some x => exact ⟨x, rfl, by simpa [byteAt, hx] using hj⟩
    obtain ⟨a, ha, ha'⟩ := key _ _ h0 (by decide)
    obtain ⟨b, hb, hb'⟩ := key _ _ h1 (by decide)
    obtain ⟨c, hc, hc'⟩ := key _ _ h2 (by decide)
    obtain ⟨d, hd, hd'⟩ := key _ _ h3 (by decide)
    obtain rfl : a = 80 := UInt8.toNat_inj.1 (by simpa using ha')
    obtain rfl : b = 75 := UInt8.toNat_inj.1 (by simpa using hb')
    obtain rfl : c = 5 := UInt8.toNat_inj.1 (by simpa using hc')
    obtain rfl : d = 6 := UInt8.toNat_inj.1 (by simpa using hd')
    apply List.ext_getElem?
    intro j
    rw [List.getElem?_take, List.getElem?_drop]
    match j with
    | 0 => simpa [sigEnd] using ha
    | 1 => simpa [sigEnd] using hb
    | 2 => simpa [sigEnd] using hc
    | 3 => simpa [sigEnd] using hd
    | j + 4 => (simp [sigEnd]; omega)
  · intro h
    have key : ∀ j, j < 4 → l[i + j]? = sigEnd[j]? := by
      intro j hj
      rw [← h, List.getElem?_take, List.getElem?_drop, if_pos hj]
    exact ⟨by rw [byteAt_of_getElem? (by have := key 0 (by omega); simpa [sigEnd] using this)]; rfl, by rw [byteAt_of_getElem? (by have := key 1 (by omega); simpa [sigEnd] using this)]; rfl,
      by rw [byteAt_of_getElem? (by have := key 2 (by omega); simpa [sigEnd] using this)]; rfl, by rw [byteAt_of_getElem? (by have := key 3 (by omega); simpa [sigEnd] using this)]; rfl⟩
theorem endsL_pos {l : List UInt8} {i : Nat} (h : sigAt l i) : 1 ≤ endsL (l.drop i) := by
  have h4 := (sigAt_iff l i).1 h
  have hlt : i < l.length := by
    have := congrArg List.length h4; simp [sigEnd] at this; omega
  rw [endsL_drop l i hlt, if_pos h4]; omega
theorem endsL_drop_le (l : List UInt8) (i : Nat) : endsL (l.drop i) ≤ endsL l := by
  induction l generalizing i with
  | nil => simp
  | cons x l ih =>
    cases i with
    | zero => exact Nat.le_refl _
    | succ i => rw [List.drop_succ_cons, endsL]; have := ih i; omega
/-- Where the mark stands once, it stands at one place. -/
theorem sig_once {l : List UInt8} (h : endsL l ≤ 1) {i j : Nat} (hi : sigAt l i) (hj : sigAt l j) : i = j := by
  have key : ∀ i j, i < j → sigAt l i → sigAt l j → False := by
    intro i j hij hi hj
    have h4 := (sigAt_iff l i).1 hi
    have hlt : i < l.length := by
      have := congrArg List.length h4; simp [sigEnd] at this; omega
    have h1 := endsL_drop l i hlt
    rw [if_pos h4] at h1
    have h2 := endsL_pos hj
    have h3 := endsL_drop_le l i
    have h5 : endsL (l.drop j) ≤ endsL (l.drop (i + 1)) := by
      have := endsL_drop_le (l.drop (i + 1)) (j - (i + 1))
      rw [List.drop_drop, show i + 1 + (j - (i + 1)) = j by omega] at this
      exact this
    omega
  rcases Nat.lt_trichotomy i j with h1 | h1 | h1
  · exact (key i j h1 hi hj).elim
  · exact h1
  · exact (key j i h1 hj hi).elim
theorem sig_none {l : List UInt8} (h : endsL l = 0) (i : Nat) : ¬ sigAt l i := fun hi => by
  have h1 := endsL_pos hi
  have h2 := endsL_drop_le l i
  omega
theorem findSig_none {l : List UInt8} {n : Nat} (h : ∀ i, i < n → ¬ sigAt l i) : findSig l n = -1 := by
  induction n with
  | zero => rfl
  | succ n ih => rw [findSig, if_neg (h n (by omega)), ih fun i hi => h i (by omega)]
theorem findSig_one {l : List UInt8} {n p : Nat} (hp : p < n) (hs : sigAt l p) (h : ∀ i, i < n → sigAt l i → i = p) :
    findSig l n = if byteAt l (p + 20) + 256 * byteAt l (p + 21) + 22 + p > l.length then -1 else (p : Int) := by
  induction n with
  | zero => omega
  | succ n ih =>
    by_cases hn : n = p
    · subst hn; rw [findSig, if_pos hs]
    · rw [findSig, if_neg (fun hs' => hn (h n (by omega) hs'))]
      exact ih (by omega) fun i hi => h i (by omega)
/-- The length of the comment that the mark at p tells. -/
def clenAt (D : List UInt8) (p : Nat) : Nat := byteAt D (p + 20) + 256 * byteAt D (p + 21)
theorem n2_byteAt {l : List UInt8} {o : Nat} (h : o + 2 ≤ l.length) : n2 l o = byteAt l o + 256 * byteAt l (o + 1) := by
  have e : (l.drop o).take 2 = [l[o], l[o + 1]] := by
    rw [List.drop_eq_getElem_cons (by omega), List.drop_eq_getElem_cons (by omega)]; rfl
  rw [n2, e]
  simp [leN, byteAt, List.getElem?_eq_getElem (show o < l.length by omega), List.getElem?_eq_getElem (show o + 1 < l.length by omega)]
/-- What is found in the last b bytes. -/
def lastSig (D : List UInt8) (b : Nat) : Int := findSig (D.drop (D.length - b)) (b - 21)
theorem lastSig_out {D : List UInt8} {b : Nat} (h : ∀ i, sigAt D i → i < D.length - b ∨ D.length < i + 22) (hb : b ≤ D.length) : lastSig D b = -1 := by
  refine findSig_none fun i hi hs => ?_
  rw [sigAt_drop] at hs
  have := h _ hs; omega
theorem lastSig_in {D : List UInt8} {b p : Nat} (hb : b ≤ D.length) (h1 : D.length - b ≤ p) (h2 : p + 22 ≤ D.length) (hs : sigAt D p) (hu : ∀ i, sigAt D i → i = p) :
    lastSig D b = if clenAt D p + 22 + p > D.length then -1 else ((p - (D.length - b) : Nat) : Int) := by
  unfold lastSig
  rw [findSig_one (p := p - (D.length - b)) (by omega) (by rw [sigAt_drop, show D.length - b + (p - (D.length - b)) = p by omega]; exact hs) (fun i hi hi' => by
    rw [sigAt_drop] at hi'; have := hu _ hi'; omega)]
  rw [byteAt_drop, byteAt_drop, List.length_drop]
  rw [show D.length - b + (p - (D.length - b) + 20) = p + 20 by omega, show D.length - b + (p - (D.length - b) + 21) = p + 21 by omega]
  unfold clenAt
  by_cases hc : byteAt D (p + 20) + 256 * byteAt D (p + 21) + 22 + p > D.length
  · rw [if_pos hc, if_pos (by omega)]
  · rw [if_neg hc, if_neg (by omega)]
/-- The block in which the end is found: the last 1024 bytes, or the last 66560. -/
inductive Found (D : List UInt8) : Option (Nat × Nat) → Prop where
  | first (b : Nat) (k : Nat) (hb : b = min 1024 D.length) (h : lastSig D b = k) : Found D (some (b, k))
  | second (b b2 : Nat) (k : Nat) (hb : b = min 1024 D.length) (h : lastSig D b = -1) (hlt : b < D.length) (hb2 : b2 = min 66560 D.length) (h2 : lastSig D b2 = k) : Found D (some (b2, k))
  | no (b b2 : Nat) (hb : b = min 1024 D.length) (h : lastSig D b = -1) (hb2 : b2 = min 66560 D.length) (h2 : b < D.length → lastSig D b2 = -1) : Found D none
end Go.Proofs.Zip
namespace Go.Proofs.Zip
open Go Go.RowKit
/-- The cells of a file that nothing is known of. -/
abbrev fileZero (zr zipr : Value) : Array Value := #[.string ⟨#[]⟩, .string ⟨#[]⟩, .bool false, .int .u16 0, .int .u16 0, .int .u16 0, .int .u16 0, .int .u64 0, .int .i64 0, .pointer none, .int .u16 0, .int .u16 0, .int .u32 0, .int .u32 0, .int .u32 0, .int .u64 0, .int .u64 0, .slice none 0 0, .int .u32 0, zr, zipr, .int .i64 0]
/-- The cells of a file, behind its header. -/
abbrev fileCells (h : H) (non : Bool) (wall ext : Int) (loc : Option Addr) (x zr zipr : Value) (off : Int) : Array Value := #[.string (B h.name), .string (B h.comment), .bool non, .int .u16 h.creator, .int .u16 h.reader, .int .u16 h.flags, .int .u16 h.method, .int .u64 wall, .int .i64 ext, .pointer loc, .int .u16 h.time, .int .u16 h.date, .int .u32 h.crc, .int .u32 h.packed, .int .u32 h.size, .int .u64 h.packed, .int .u64 h.size, x, .int .u32 h.ext, zr, zipr, .int .i64 off]
/-- What stays while a header is read: where things lie. -/
structure HF (R : Rdr) (N0 : Nat) (w0 : World) (f v g : Nat) : Prop where
  ok : R.Ok N0
  flt : f < w0.heap.size
  fR : ¬ (R.has f ∨ f = R.a)
  Rlt : ∀ b, R.has b ∨ b = R.a → b < w0.heap.size
  vn : w0.heap.size ≤ v
  gn : w0.heap.size ≤ g
  vg : v ≠ g
theorem HF.vf {R : Rdr} {N0 : Nat} {w0 : World} {f v g : Nat} (h : HF R N0 w0 f v g) : v ≠ f := by have := h.flt; have := h.vn; omega
theorem HF.gf {R : Rdr} {N0 : Nat} {w0 : World} {f v g : Nat} (h : HF R N0 w0 f v g) : g ≠ f := by have := h.flt; have := h.gn; omega
theorem HF.vR {R : Rdr} {N0 : Nat} {w0 : World} {f v g : Nat} (h : HF R N0 w0 f v g) : ∀ b, R.has b ∨ b = R.a → b ≠ v := fun b hb => by have := h.Rlt b hb; have := h.vn; omega
theorem HF.gR {R : Rdr} {N0 : Nat} {w0 : World} {f v g : Nat} (h : HF R N0 w0 f v g) : ∀ b, R.has b ∨ b = R.a → b ≠ g := fun b hb => by have := h.Rlt b hb; have := h.gn; omega
/-- The state while the 46 bytes L are read, at o. -/
structure HS (R : Rdr) (E : Errs) (w0 w : World) (f : Nat) (cs : Array Value) (v g o : Nat) (L l : List UInt8) : Prop where
  file : Blk w f cs 80
  rs : RS w v g o L 203
  rd : RB R E w l
  fr : Fr (fun b => b = f ∨ R.has b) w0 w
theorem HS.next {R : Rdr} {E : Errs} {N0 : Nat} {w0 w w' : World} {f : Nat} {cs : Array Value} {v g o o' : Nat} {L l : List UInt8} (h : HS R E w0 w f cs v g o L l) (st : HF R N0 w0 f v g) (h1 : RS w' v g o' L 203) (h3 : Fr (· = v) w w') :
    HS R E w0 w' f cs v g o' L l := by
  refine ⟨h3.blk h.file (fun e => st.vf e.symm), h1, h.rd.fr h3 (fun b hb e => st.vR b hb e), h.fr.trans h3 fun i hi e => ?_⟩
  subst e; exact absurd hi (Nat.not_lt_of_le st.vn)
theorem HS.u16 {R : Rdr} {E : Errs} {N0 : Nat} {w0 w : World} {f : Nat} {cs : Array Value} {v g o : Nat} {L l : List UInt8} (h : HS R E w0 w f cs v g o L l) (st : HF R N0 w0 f v g) (n : Int) (hx : (n2 L o : Int) = n) (ho : o + 2 ≤ L.length) :
    Calls Tryz.prog 90 #[.pointer (some ⟨v, 0, none⟩)] w fun e w' => e = .returned (.int .u16 n) ∧ HS R E w0 w' f cs v g (o + 2) L l := by
  refine (h.rs.u16 st.vg ho).mono ?_
  rintro e w' ⟨rfl, h2, h3⟩
  exact ⟨by rw [hx], h.next st h2 h3⟩
theorem HS.u32 {R : Rdr} {E : Errs} {N0 : Nat} {w0 w : World} {f : Nat} {cs : Array Value} {v g o : Nat} {L l : List UInt8} (h : HS R E w0 w f cs v g o L l) (st : HF R N0 w0 f v g) (n : Int) (hx : (n4 L o : Int) = n) (ho : o + 4 ≤ L.length) :
    Calls Tryz.prog 89 #[.pointer (some ⟨v, 0, none⟩)] w fun e w' => e = .returned (.int .u32 n) ∧ HS R E w0 w' f cs v g (o + 4) L l := by
  refine (h.rs.u32 st.vg ho).mono ?_
  rintro e w' ⟨rfl, h2, h3⟩
  exact ⟨by rw [hx], h.next st h2 h3⟩
theorem HS.set {R : Rdr} {E : Errs} {N0 : Nat} {w0 w : World} {f : Nat} {cs : Array Value} {v g o : Nat} {L l : List UInt8} (h : HS R E w0 w f cs v g o L l) (st : HF R N0 w0 f v g) (i : Nat) (x : Value) : HS R E w0 (w.setCell ⟨f, i, none⟩ x) f (cs.setIfInBounds i x) v g o L l := by
  have hfr : Fr (· = f) w (w.setCell ⟨f, i, none⟩ x) := (Fr.refl (· = f) _).setCell (fun _ => rfl) _
  exact ⟨h.file.set i x, h.rs.fr hfr st.vf st.gf, h.rd.fr hfr (fun b hb e => st.fR (e ▸ hb)), h.fr.setCell (fun _ => .inl rfl) _⟩
end Go.Proofs.Zip
namespace Go.Proofs.Zip
open Go Go.RowKit
theorem list_tab {α : Type} (d : α) (l : List α) : l = (List.range l.length).map fun i => l.getD i d := by
  apply List.ext_getElem
  · simp
  · intro i h1 h2
    rw [List.getElem_map, List.getElem_range, List.getD_eq_getElem?_getD, List.getElem?_eq_getElem h1]; rfl
set_option maxRecDepth 100000 in
/-- A frame of 404 slots, written out. -/
theorem frame404 (a : Act) (hs : a.tmps.size = 404) (hd : a.defers = []) : ∃ u : Nat → Value, a = ⟨#[u 0, u 1, u 2, u 3, u 4, u 5, u 6, u 7, u 8, u 9, u 10, u 11, u 12, u 13, u 14, u 15, u 16, u 17, u 18, u 19, u 20, u 21, u 22, u 23, u 24, u 25, u 26, u 27, u 28, u 29, u 30, u 31, u 32, u 33, u 34, u 35, u 36, u 37, u 38, u 39, u 40, u 41, u 42, u 43, u 44, u 45, u 46, u 47, u 48, u 49, u 50, u 51, u 52, u 53, u 54, u 55, u 56, u 57, u 58, u 59, u 60, u 61, u 62, u 63, u 64, u 65, u 66, u 67, u 68, u 69, u 70, u 71, u 72, u 73, u 74, u 75, u 76, u 77, u 78, u 79, u 80, u 81, u 82, u 83, u 84, u 85, u 86, u 87, u 88, u 89, u 90, u 91, u 92, u 93, u 94, u 95, u 96, u 97, u 98, u 99, u 100, u 101, u 102, u 103, u 104, u 105, u 106, u 107, u 108, u 109, u 110, u 111, u 112, u 113, u 114, u 115, u 116, u 117, u 118, u 119, u 120, u 121, u 122, u 123, u 124, u 125, u 126, u 127, u 128, u 129, u 130, u 131, u 132, u 133, u 134, u 135, u 136, u 137, u 138, u 139, u 140, u 141, u 142, u 143, u 144, u 145, u 146, u 147, u 148, u 149, u 150, u 151, u 152, u 153, u 154, u 155, u 156, u 157, u 158, u 159, u 160, u 161, u 162, u 163, u 164, u 165, u 166, u 167, u 168, u 169, u 170, u 171, u 172, u 173, u 174, u 175, u 176, u 177, u 178, u 179, u 180, u 181, u 182, u 183, u 184, u 185, u 186, u 187, u 188, u 189, u 190, u 191, u 192, u 193, u 194, u 195, u 196, u 197, u 198, u 199, u 200, u 201, u 202, u 203, u 204, u 205, u 206, u 207, u 208, u 209, u 210, u 211, u 212, u 213, u 214, u 215, u 216, u 217, u 218, u 219, u 220, u 221, u 222, u 223, u 224, u 225, u 226, u 227, u 228, u 229, u 230, u 231, u 232, u 233, u 234, u 235, u 236, u 237, u 238, u 239, u 240, u 241, u 242, u 243, u 244, u 245, u 246, u 247, u 248, u 249, u 250, u 251, u 252, u 253, u 254, u 255, u 256, u 257, u 258, u 259, u 260, u 261, u 262, u 263, u 264, u 265, u 266, u 267, u 268, u 269, u 270, u 271, u 272, u 273, u 274, u 275, u 276, u 277, u 278, u 279, u 280, u 281, u 282, u 283, u 284, u 285, u 286, u 287, u 288, u 289, u 290, u 291, u 292, u 293, u 294, u 295, u 296, u 297, u 298, u 299, u 300, u 301, u 302, u 303, u 304, u 305, u 306, u 307, u 308, u 309, u 310, u 311, u 312, u 313, u 314, u 315, u 316, u 317, u 318, u 319, u 320, u 321, u 322, u 323, u 324, u 325, u 326, u 327, u 328, u 329, u 330, u 331, u 332, u 333, u 334, u 335, u 336, u 337, u 338, u 339, u 340, u 341, u 342, u 343, u 344, u 345, u 346, u 347, u 348, u 349, u 350, u 351, u 352, u 353, u 354, u 355, u 356, u 357, u 358, u 359, u 360, u 361, u 362, u 363, u 364, u 365, u 366, u 367, u 368, u 369, u 370, u 371, u 372, u 373, u 374, u 375, u 376, u 377, u 378, u 379, u 380, u 381, u 382, u 383, u 384, u 385, u 386, u 387, u 388, u 389, u 390, u 391, u 392, u 393, u 394, u 395, u 396, u 397, u 398, u 399, u 400, u 401, u 402, u 403], []⟩ ∧ ∀ i, i < 404 → u i = a.tmps.getD i undef := by
  obtain ⟨t, d⟩ := a
  simp only at hs hd
  subst hd
  refine ⟨fun i => t.toList.getD i undef, ?_, fun i hi => ?_⟩
  · have h := list_tab undef t.toList
    have hl : t.toList.length = 404 := by simpa using hs
    rw [hl] at h
    have e : t = (List.map (fun i => t.toList.getD i undef) (List.range 404)).toArray := by
      apply Array.toList_inj.1
      rw [← h]
    generalize (fun i => t.toList.getD i undef) = u at e ⊢
    rw [e]; rfl
  · simp only [Array.getD_eq_getD_getElem?, List.getD_eq_getElem?_getD, Array.getElem?_toList]
end Go.Proofs.Zip
