/- A part of a proof over the given program: CrcB, Cw, Cw2, Cw3. Nothing is assumed here. -/
import Derived.Test.YtidmhfhfcoljeaaGreatDoorZB
import Derived.Test.YtidmhfhfcoljeaaGreatDoorZC
import Derived.Test.YtidmhfhfcoljeaaGreatDoorZE
import Derived.Deep.DeepCutAuto
namespace Go.Proofs.Zip
open Go Go.RowKit
theorem crc8_eq_bits (c : Nat) : crc8 c = crcBits 8 c := rfl
theorem crcN_lt (n : Nat) {c : Nat} (h : c < 4294967296) : crcN n c < 4294967296 := by
  induction n with
  | zero => exact h
  | succ n ih => exact crc8_lt ih
/-- One byte by the table. -/
theorem crc8_step (c b : Nat) (hb : b < 256) : crc8 (c ^^^ b) = crc8 ((c % 256) ^^^ b) ^^^ (c / 256) := by
  rw [crc8_split (c ^^^ b)]
  have e1 : (c ^^^ b) % 256 = (c % 256) ^^^ b := by
    have := @Nat.xor_mod_two_pow c b 8
    rw [show (2 : Nat) ^ 8 = 256 from rfl] at this
    rw [this, Nat.mod_eq_of_lt hb]
  have e2 : (c ^^^ b) / 256 = c / 256 := by
    have := @Nat.xor_div_two_pow c b 8
    rw [show (2 : Nat) ^ 8 = 256 from rfl] at this
    rw [this, Nat.div_eq_of_lt hb, Nat.xor_zero]
  rw [e1, e2]
theorem crcN_split (n x : Nat) : crcN (n + 1) x = crcN n (crc8 (x % 256) ^^^ (x / 256)) := by rw [crcN_succ', crc8_split]
theorem crcRaw_cons (c : Nat) (b : UInt8) (l : List UInt8) : crcRaw c (b :: l) = crcRaw (crc8 (c ^^^ b.toNat)) l := rfl
theorem crcRaw_append (c : Nat) (a b : List UInt8) : crcRaw c (a ++ b) = crcRaw (crcRaw c a) b := by simp [crcRaw, List.foldl_append]
theorem crcN_leN4 (a b c d : UInt8) : crcN 4 (leN [a, b, c, d]) = crcN 4 a.toNat ^^^ crcN 3 b.toNat ^^^ crcN 2 c.toNat ^^^ crcN 1 d.toNat := by
  have ha := a.toNat_lt
  have hb := b.toNat_lt
  have hc := c.toNat_lt
  have hd := d.toNat_lt
  have hn : leN [a, b, c, d] = a.toNat + 256 * (b.toNat + 256 * (c.toNat + 256 * d.toNat)) := by simp [leN]
  rw [crcN4, hn]
  have e1 : (a.toNat + 256 * (b.toNat + 256 * (c.toNat + 256 * d.toNat))) % 256 = a.toNat := by omega
  have e2 : (a.toNat + 256 * (b.toNat + 256 * (c.toNat + 256 * d.toNat))) / 256 % 256 = b.toNat := by omega
  have e3 : (a.toNat + 256 * (b.toNat + 256 * (c.toNat + 256 * d.toNat))) / 65536 % 256 = c.toNat := by omega
  have e4 : (a.toNat + 256 * (b.toNat + 256 * (c.toNat + 256 * d.toNat))) / 16777216 = d.toNat := by omega
  rw [e1, e2, e3, e4]
/-- Four bytes at once. -/
theorem crcRaw4 (s : Nat) (a b c d : UInt8) : crcRaw s [a, b, c, d] = crcN 4 s ^^^ crcN 4 (leN [a, b, c, d]) := by
  rw [crcN_leN4]
  show crc8 (crc8 (crc8 (crc8 (s ^^^ a.toNat) ^^^ b.toNat) ^^^ c.toNat) ^^^ d.toNat) = _
  simp only [crc8_xor]
  show crcN 4 s ^^^ crcN 4 a.toNat ^^^ crcN 3 b.toNat ^^^ crcN 2 c.toNat ^^^ crcN 1 d.toNat = _
  simp only [Nat.xor_assoc]
theorem crcN_add (m n c : Nat) : crcN (m + n) c = crcN m (crcN n c) := by
  induction m with
  | zero => simp [crcN]
  | succ m ih => rw [show m + 1 + n = (m + n) + 1 by omega]; simp only [crcN, ih]
/-- Eight bytes at once, x being the state and the first four. -/
theorem crcRaw8 (s x : Nat) (a b c d p4 p5 p6 p7 : UInt8) (hx : x = s ^^^ leN [a, b, c, d]) :
    crcRaw s [a, b, c, d, p4, p5, p6, p7] = crcN 1 p7.toNat ^^^ crcN 2 p6.toNat ^^^ crcN 3 p5.toNat ^^^ crcN 4 p4.toNat ^^^ crcN 5 (x / 16777216) ^^^ crcN 6 (x / 65536 % 256) ^^^ crcN 7 (x / 256 % 256) ^^^ crcN 8 (x % 256) := by
  rw [show [a, b, c, d, p4, p5, p6, p7] = [a, b, c, d] ++ [p4, p5, p6, p7] from rfl, crcRaw_append, crcRaw4 s, ← crcN_xor 4 s, ← hx, crcRaw4, crcN_leN4]
  have key : ∀ A B C D E F G H : Nat, A ^^^ B ^^^ C ^^^ D ^^^ (E ^^^ F ^^^ G ^^^ H) = H ^^^ G ^^^ F ^^^ E ^^^ D ^^^ C ^^^ B ^^^ A := by intros; ac_rfl
  rw [crcN4 x, crcN_xor, crcN_xor, crcN_xor, ← crcN_add, ← crcN_add, ← crcN_add, ← crcN_add]
  exact key _ _ _ _ _ _ _ _
end Go.Proofs.Zip
namespace Go.Proofs.Zip
open Go Go.RowKit
/-- 'new(T)' of a type whose cells are many: none of them is shown. -/
theorem wpList_alloc_big {P : Program} {ops : Array Oper} {rest : List Oper} {o : Oper} {a : Act} {w : World} {Q : Exit → Act → World → Prop} (hg : o.guard = none) (T : TypeId) (ho : o.op = .alloc T) (n : Nat)
    (hi : (P.info? T).map (fun i => i.zero.map (·.cells.size)) = some (some n))
    (h : ∀ cs, cs.size = n → wpList P ops Q rest (a.put o.dst (.pointer (some ⟨w.heap.size, 0, none⟩))) (w.alloc (.cells cs T))) : wpList P ops Q (o :: rest) a w := by
  cases hq : P.info? T with
  | none => simp [hq] at hi
  | some i =>
    simp [hq] at hi
    obtain ⟨z, hz, hzs⟩ := hi
    refine wpList_plain hg fun K hK => ?_
    have h3 := hK _ _ (h z.cells hzs)
    unfold Oper.wp execOp
    simp [ho, Instr.alloc, zeroValue, typeInfo, hq, hz, newVar, newRow]
    exact h3
/-- The first table lies at the head of block t. -/
def Tab0 (cs : Array Value) (n : Nat) : Prop := ∀ i, i < n → cs[i]? = some (.int .u32 (crc8 i))
set_option maxRecDepth 100000 in
set_option maxHeartbeats 1000000 in
theorem popTable_any (t : Nat) (cs : Array Value) (T : TypeId) (w : World) (hb : Blk w t cs T) (hsz : 256 ≤ cs.size) : Calls Tryz.prog 210 #[.int .u32 3988292384, .pointer (some ⟨t, 0, none⟩)] w fun e w' =>
    (∃ v, e = .returned v) ∧ (∃ cs', Blk w' t cs' T ∧ cs'.size = cs.size ∧ Tab0 cs' 256) ∧ Fr (· = t) w w' := by
  go_enter Tryz.func210, Tryz.ntmps210
  have HB := Lib.hid hb
  clear hb
  go_wp2
  go_loopw [4] (fun v4 wr => ∃ i : Nat, v4 = .int .i64 i ∧ i ≤ 256 ∧ Hid ((∃ cs', Blk wr t cs' T ∧ cs'.size = cs.size ∧ Tab0 cs' i) ∧ Fr (· = t) w wr)) (fun v4 _ => 256 - (intOf v4).toNat)
  case atStart => exact ⟨0, rfl, Nat.zero_le _, Lib.hid ⟨⟨cs, HB.out, rfl, fun i hi => absurd hi (by omega)⟩, Fr.refl _ _⟩⟩
  case round =>
    obtain ⟨i, rfl, hi, hw⟩ := hrel
    by_cases hlt : i < 256
    · go_wp2
      have hi32 : i < 4294967296 := by omega
      go_loop [5, 6] (fun t5 t6 => ∃ j : Nat, t6 = .int .i64 j ∧ t5 = .int .u32 (crcBits j i) ∧ j ≤ 8) (fun _ t6 => 8 - (intOf t6).toNat)
      case atStart => exact ⟨0, rfl, rfl, Nat.zero_le _⟩
      case round =>
        obtain ⟨j, rfl, rfl, hj⟩ := hrel
        by_cases hj8 : j < 8
        · have hy := crcBits_lt j hi32
          have HS2 : Hid (crcBits (j + 1) i = crcBit (crcBits j i)) := Lib.hid rfl
          generalize crcBits j i = y at hy HS2
          have ha : bits .and .u32 (y : Int) 1 = ((y % 2 : Nat) : Int) := by
            rw [show (1 : Int) = ((1 : Nat) : Int) from rfl, u32_and_nat y 1 hy (by decide), nat_mask1]
          by_cases hp : y % 2 = 1
          · have ha : bits .and .u32 (y : Int) 1 = 1 := by rw [ha, hp]; rfl
            have hxo : bits .xor .u32 ((y / 2 : Nat) : Int) 3988292384 = (((y / 2) ^^^ 3988292384 : Nat) : Int) := u32_xor_nat (y / 2) 3988292384 (by omega) (by decide)
            have HP := Lib.hid hp
            clear hp
            go_wp2
            refine ⟨⟨j + 1, by go_num, ?_, by omega⟩, by simp [intOf]; omega⟩
            rw [HS2.out, crcBit, if_pos HP.out, ← hxo]; rfl
          · have ha : bits .and .u32 (y : Int) 1 = 0 := by rw [ha, show y % 2 = 0 by omega]; rfl
            have HP := Lib.hid hp
            clear hp
            go_wp2
            refine ⟨⟨j + 1, by go_num, ?_, by omega⟩, by simp [intOf]; omega⟩
            rw [HS2.out, crcBit, if_neg HP.out]; rfl
        · obtain rfl : j = 8 := by omega
          obtain ⟨⟨cs', hb', hs', ht'⟩, hf'⟩ := hw.out
          have hc : wr.cell? ⟨t, i, none⟩ = some (cs'[i]'(by omega)) := by rw [hb'.cell]; exact Array.getElem?_eq_getElem _
          have hfz : wr.frozen? ⟨t, i, none⟩ = false := hb'.frozen i
          have hi0 : (0 : Int) ≤ i := by omega
          have hi1 : (i : Int) < 256 := by omega
          have HB' := Lib.hid hb'
          have HT' := Lib.hid ht'
          have HF' := Lib.hid hf'
          clear hb' ht' hf'
          go_wp2
          refine ⟨⟨i + 1, by go_num, by omega, Lib.hid ⟨⟨_, HB'.out.set i _, by simp [hs'], ?_⟩, HF'.out.setCell (fun _ => rfl) _⟩⟩, by simp [intOf]; omega⟩
          intro k hk
          by_cases hki : k = i
          · subst hki; rw [Array.getElem?_setIfInBounds_self_of_lt (by omega)]; rfl
          · rw [Array.getElem?_setIfInBounds_ne (by omega)]; exact HT'.out k (by omega)
    · obtain rfl : i = 256 := by omega
      go_wp2
      go_returns
      exact ⟨⟨_, rfl⟩, hw.out.1, hw.out.2⟩
end Go.Proofs.Zip
namespace Go.Proofs.Zip
open Go Go.RowKit
/-- The eight tables, the upper seven as far as their first n entries. -/
def Tabs (cs : Array Value) (n : Nat) : Prop := Tab0 cs 256 ∧ ∀ j, 1 ≤ j → j < 8 → ∀ i, i < n → cs[j * 256 + i]? = some (.int .u32 (crcN (j + 1) i))
theorem Tabs.at {cs : Array Value} (h : Tabs cs 256) (j i : Nat) (hj : j < 8) (hi : i < 256) : cs[j * 256 + i]? = some (.int .u32 (crcN (j + 1) i)) := by
  by_cases h0 : j = 0
  · subst h0; rw [Nat.zero_mul, Nat.zero_add]; exact h.1 i hi
  · exact h.2 j (by omega) hj i hi
theorem tabStep (y : Nat) (hy : y < 4294967296) : bits .xor .u32 (crc8 (y % 256) : Int) ((y / 256 : Nat) : Int) = (crc8 y : Int) := by
  rw [u32_xor_nat _ _ (crc8_lt (by omega)) (by omega), ← crc8_split]
theorem u32_mask255 (y : Nat) (hy : y < 4294967296) : bits .and .u32 (y : Int) 255 = ((y % 256 : Nat) : Int) := by
  rw [show (255 : Int) = ((255 : Nat) : Int) from rfl, u32_and_nat y 255 hy (by decide)]
  congr 1
  exact Nat.and_two_pow_sub_one_eq_mod y 8
set_option maxRecDepth 100000 in
set_option maxHeartbeats 2000000 in
theorem makeTab_any (w : World) : Calls Tryz.prog 207 #[.int .u32 3988292384] w fun e w' =>
    ∃ t cs T, e = .returned (.pointer (some ⟨t, 0, none⟩)) ∧ w.heap.size ≤ t ∧ Blk w' t cs T ∧ Tabs cs 256 ∧ Below w.heap.size w w' := by
  go_enter Tryz.func207, Tryz.ntmps207
  go_wp2_with (refine wpList_alloc_big rfl 342 rfl 2048 (by kernel_rfl) ?_)
  intro cs hcs
  have hb0 := Blk.new w cs 342
  have HP := Lib.hid (popTable_any w.heap.size cs 342 _ hb0 (by omega))
  clear hb0
  go_wp2_with (go_at_call 210; refine HP.out.mono ?_; rintro e w1 ⟨⟨v, rfl⟩, hx, hf⟩; have HX := Lib.hid hx; have HF := Lib.hid hf; clear hx hf)
  clear HP
  obtain ⟨t, ht⟩ : ∃ t, t = w.heap.size := ⟨_, rfl⟩
  go_loopw [4] (fun v4 wr => ∃ i : Nat, v4 = .int .i64 i ∧ i ≤ 256 ∧ Hid (∃ cs', Blk wr w.heap.size cs' 342 ∧ cs'.size = 2048 ∧ Tabs cs' i) ∧ Hid (Below w.heap.size w wr)) (fun v4 _ => 256 - (intOf v4).toNat)
  case atStart =>
    obtain ⟨cs', h1, h2, h3⟩ := HX.out
    refine ⟨0, rfl, Nat.zero_le _, Lib.hid ⟨cs', h1, h2.trans hcs, h3, fun j _ _ i hi => absurd hi (by omega)⟩, Lib.hid ?_⟩
    exact ((Below.refl _ _).alloc (Nat.le_refl _) _).trans (HF.out.below (by simp) (fun i hi e => by omega))
  case round =>
    obtain ⟨i, rfl, hi, hx, hb⟩ := hrel
    by_cases hlt : i < 256
    · have hi0 : (0 : Int) ≤ i := by omega
      have hi1 : (i : Int) < 256 := by omega
      have hc0 : wr.cell? ⟨w.heap.size, i, none⟩ = some (.int .u32 (crc8 i)) := by
        obtain ⟨cs', h1, h2, h3⟩ := hx.out
        rw [h1.cell]; exact h3.1 i hlt
      have hi32 : crc8 i < 4294967296 := crc8_lt (by omega)
      go_wp2
      obtain ⟨wo, rfl⟩ : ∃ wo : World, wo = wr := ⟨_, rfl⟩
      go_loopw [5, 6] (fun v5 v6 wr => ∃ j : Nat, v6 = .int .i64 j ∧ v5 = .int .u32 (crcN j i) ∧ 1 ≤ j ∧ j ≤ 8 ∧ Hid (∃ cs', Blk wr w.heap.size cs' 342 ∧ cs'.size = 2048 ∧ Tabs cs' i ∧ ∀ j', 1 ≤ j' → j' < j → cs'[j' * 256 + i]? = some (.int .u32 (crcN (j' + 1) i))) ∧ Hid (Below w.heap.size w wr)) (fun _ v6 _ => 8 - (intOf v6).toNat)
      case atStart =>
        obtain ⟨cs', h1, h2, h3⟩ := hx.out
        exact ⟨1, rfl, rfl, Nat.le_refl _, by omega, Lib.hid ⟨cs', h1, h2, h3, fun j' h1 h2 => absurd h1 (by omega)⟩, hb⟩
      case round =>
        obtain ⟨j, rfl, rfl, hj1, hj8, hq, hbq⟩ := hrel
        by_cases hjl : j < 8
        · have hy : crcN j i < 4294967296 := crcN_lt j (by omega)
          have HY : Hid (crcN (j + 1) i = crc8 (crcN j i)) := Lib.hid rfl
          obtain ⟨cs', h1, h2, h3, h4⟩ := hq.out
          generalize crcN j i = y at hy HY
          have hm := u32_mask255 y hy
          have hx2 := tabStep y hy
          have hlt2 : crc8 y < 4294967296 := crc8_lt hy
          have hct : wr.cell? ⟨w.heap.size, y % 256, none⟩ = some (.int .u32 (crc8 (y % 256))) := by
            rw [h1.cell]; exact h3.1 _ (by omega)
          have hcs' : wr.cell? ⟨w.heap.size, j * 256 + i, none⟩ = some (cs'[j * 256 + i]'(by omega)) := by rw [h1.cell]; exact Array.getElem?_eq_getElem _
          have hfs : wr.frozen? ⟨w.heap.size, j * 256 + i, none⟩ = false := h1.frozen _
          have hj0 : (0 : Int) ≤ j := by omega
          have hj9 : (j : Int) < 8 := by omega
          have hy0 : (0 : Int) ≤ ((y % 256 : Nat) : Int) := by omega
          have hy1 : ((y % 256 : Nat) : Int) < 256 := by omega
          have H1 := Lib.hid h1
          have H3 := Lib.hid h3
          have H4 := Lib.hid h4
          have H2 := Lib.hid h2
          clear h1 h3 h4
          go_wp2
          refine ⟨⟨j + 1, by go_num, by rw [HY.out, ← hx2]; rfl, by omega, by omega, Lib.hid ⟨_, H1.out.set _ _, by rw [Array.size_setIfInBounds]; exact H2.out, ⟨fun k hk => ?_, fun j' hj' hj8' k hk => ?_⟩, fun j' hj' hjj => ?_⟩, Lib.hid (hbq.out.setCell (Nat.le_refl _) _)⟩, by simp [intOf]; omega⟩
          · rw [Array.getElem?_setIfInBounds_ne (by omega)]; exact H3.out.1 k hk
          · rw [Array.getElem?_setIfInBounds_ne (by omega)]; exact H3.out.2 j' hj' hj8' k hk
          · by_cases hjq : j' = j
            · rw [hjq, Array.getElem?_setIfInBounds_self_of_lt (by have := H2.out; omega), HY.out, ← hx2]; rfl
            · rw [Array.getElem?_setIfInBounds_ne (by omega)]; exact H4.out j' hj' (by omega)
        · obtain rfl : j = 8 := by omega
          have hx' : Hid (∃ cs', Blk wr w.heap.size cs' 342 ∧ cs'.size = 2048 ∧ Tabs cs' (i + 1)) := by
            obtain ⟨cs', h1, h2, h3, h4⟩ := hq.out
            refine Lib.hid ⟨cs', h1, h2, h3.1, fun j hj hj' k hk => ?_⟩
            by_cases hki : k = i
            · subst hki; exact h4 j hj hj'
            · exact h3.2 j hj hj' k (by omega)
          clear hq
          go_wp2
          exact ⟨⟨i + 1, by go_num, by omega, hx', hbq⟩, by simp [intOf]; omega⟩
    · obtain rfl : i = 256 := by omega
      go_wp2
      go_ret
      obtain ⟨cs', h1, h2, h3⟩ := hx.out
      exact ⟨_, cs', _, rfl, Nat.le_refl _, h1, h3, hb.out⟩
end Go.Proofs.Zip
namespace Go.Proofs.Zip
open Go Go.RowKit
theorem not32 (c : Nat) (h : c < 4294967296) : c ^^^ 4294967295 < 4294967296 := Nat.xor_lt_two_pow (n := 32) h (by decide)
theorem not32x (c : Nat) (h : c < 4294967296) : bits .xor .u32 IntKind.u32.max (c : Int) = ((c ^^^ 4294967295 : Nat) : Int) := by
  rw [show IntKind.u32.max = ((4294967295 : Nat) : Int) from rfl, u32_xor_nat 4294967295 c (by decide) h, Nat.xor_comm]
set_option maxRecDepth 100000 in
set_option maxHeartbeats 1000000 in
theorem simpleUpdate_any (t : Nat) (cs : Array Value) (T : TypeId) (g o cap c : Nat) (l : List UInt8) (w : World) (ht : Blk w t cs T) (hT : Tab0 cs 256) (hl : w.rangeAt g o (u8s l)) (hlen : l.length ≤ 4611686018427387904) (hc : c < 4294967296) :
    Calls Tryz.prog 209 #[.int .u32 c, .pointer (some ⟨t, 0, none⟩), .slice (some ⟨g, o, none⟩) l.length cap] w fun e w' => e = .returned (.int .u32 (crcRaw (c ^^^ 4294967295) l ^^^ 4294967295 : Nat)) ∧ w = w' := by
  go_enter Tryz.func209, Tryz.ntmps209
  have HT := Lib.hid ht
  have HTT := Lib.hid hT
  have HL := Lib.hid hl
  clear ht hT hl
  have hq := not32 c hc
  have hqx := not32x c hc
  have hsg : IntKind.u32.signed = false := rfl
  obtain ⟨q, hqq⟩ : ∃ q, q = c ^^^ 4294967295 := ⟨_, rfl⟩
  rw [← hqq] at hq hqx ⊢
  have HQ := Lib.hid hqq
  clear hqq
  go_wp2
  go_loop [0, 13] (fun v0 v13 => ∃ k c' : Nat, v13 = .int .i64 k ∧ v0 = .int .u32 c' ∧ k ≤ l.length ∧ c' < 4294967296 ∧ Hid (c' = crcRaw q (l.take k))) (fun _ v13 => l.length - (intOf v13).toNat)
  case atStart => exact ⟨0, q, rfl, rfl, Nat.zero_le _, hq, Lib.hid rfl⟩
  case round =>
    obtain ⟨k, c', rfl, rfl, hk, hc', he⟩ := hrel
    by_cases hlt : k < l.length
    · have hsn : crcRaw q (l.take (k + 1)) = crc8 (crcRaw q (l.take k) ^^^ l[k].toNat) := by
        unfold crcRaw; rw [List.take_succ_eq_append_getElem hlt, List.foldl_append]; rfl
      have hb := l[k].toNat_lt
      have hcell : w.cell? ⟨g, o + k, none⟩ = some (.int .u8 (l[k].toNat : Int)) := HL.out k _ (by simp [u8s, hlt])
      generalize l[k].toNat = b at hsn hb hcell
      rw [crc8_step _ b hb, ← he.out] at hsn
      have hx : bits .xor .u8 ((c' : Int) % 256) (b : Int) = ((c' % 256 ^^^ b : Nat) : Int) := u8_xor_nat (c' % 256) b (by omega) hb
      have hxlt : c' % 256 ^^^ b < 256 := Nat.xor_lt_two_pow (n := 8) (by omega) hb
      generalize c' % 256 ^^^ b = x at hsn hx hxlt
      have htab : w.cell? ⟨t, x, none⟩ = some (.int .u32 (crc8 x)) := by rw [HT.out.cell]; exact HTT.out x hxlt
      have hx32 : crc8 x < 4294967296 := crc8_lt (by omega)
      have hxx : bits .xor .u32 (crc8 x : Int) ((c' : Int) / 256) = ((crc8 x ^^^ c' / 256 : Nat) : Int) := u32_xor_nat (crc8 x) (c' / 256) hx32 (by omega)
      have hlt2 : crc8 x ^^^ c' / 256 < 4294967296 := Nat.xor_lt_two_pow (n := 32) hx32 (by omega)
      have HSN := Lib.hid hsn
      generalize crc8 x ^^^ c' / 256 = z at hxx hlt2 HSN
      generalize crc8 x = y at htab hx32 hxx
      have hx0 : (0 : Int) ≤ x := by omega
      have hx1 : (x : Int) < 256 := by omega
      clear hsn
      go_wp2
      exact ⟨⟨k + 1, z, by go_num, rfl, by omega, hlt2, Lib.hid HSN.out.symm⟩, by simp [intOf]; omega⟩
    · obtain rfl : k = l.length := by omega
      have hz := not32x c' hc'
      have HZ : Hid (c' ^^^ 4294967295 = crcRaw q l ^^^ 4294967295) := Lib.hid (by rw [he.out, List.take_of_length_le (Nat.le_refl _)])
      generalize c' ^^^ 4294967295 = z at hz HZ
      go_wp2
      go_ret
      exact ⟨by rw [HZ.out]; rfl, rfl⟩
theorem orU (m n k : Nat) (hm : m < 2 ^ k) (h : m + n * 2 ^ k < 4294967296) : bits .or .u32 (m : Int) ((n * 2 ^ k : Nat) : Int) = ((m + n * 2 ^ k : Nat) : Int) := by
  rw [u32_or_nat _ _ (by omega) (by omega), or_shift _ _ k hm]
theorem orU8 (m n : Nat) (hm : m < 256) (hn : n < 256) : bits .or .u32 (m : Int) ((n : Int) * 256) = ((m + n * 256 : Nat) : Int) := orU m n 8 hm (by omega)
theorem orU16 (m n : Nat) (hm : m < 65536) (hn : n < 256) : bits .or .u32 (m : Int) ((n : Int) * 65536) = ((m + n * 65536 : Nat) : Int) := orU m n 16 hm (by omega)
theorem orU24 (m n : Nat) (hm : m < 16777216) (hn : n < 256) : bits .or .u32 (m : Int) ((n : Int) * 16777216) = ((m + n * 16777216 : Nat) : Int) := orU m n 24 hm (by omega)
set_option maxRecDepth 100000 in
theorem crcLe_any (g o len cap : Nat) (a b c d : UInt8) (w : World) (h : w.rangeAt g o (u8s [a, b, c, d])) (hlen : 4 ≤ len) :
    Calls Tryz.prog 208 #[.slice (some ⟨g, o, none⟩) len cap] w fun e w' => e = .returned (.int .u32 (leN [a, b, c, d])) ∧ w' = w.drew := by
  go_enter Tryz.func208, Tryz.ntmps208
  have ha := a.toNat_lt
  have hb := b.toNat_lt
  have hc := c.toNat_lt
  have hd := d.toNat_lt
  have c0 : w.cell? ⟨g, o, none⟩ = some (.int .u8 (a.toNat : Int)) := h 0 _ rfl
  have c1 : w.cell? ⟨g, o + 1, none⟩ = some (.int .u8 (b.toNat : Int)) := h 1 _ rfl
  have c2 : w.cell? ⟨g, o + 2, none⟩ = some (.int .u8 (c.toNat : Int)) := h 2 _ rfl
  have c3 : w.cell? ⟨g, o + 3, none⟩ = some (.int .u8 (d.toNat : Int)) := h 3 _ rfl
  have hN : leN [a, b, c, d] = a.toNat + b.toNat * 256 + c.toNat * 65536 + d.toNat * 16777216 := by simp [leN]; omega
  rw [hN]
  clear h hN
  generalize a.toNat = a at *
  generalize b.toNat = b at *
  generalize c.toNat = c at *
  generalize d.toNat = d at *
  have h1 := orU8 a b ha hb
  have h2 := orU16 (a + b * 256) c (by omega) hc
  have h3 := orU24 (a + b * 256 + c * 65536) d (by omega) hd
  obtain ⟨x, hx⟩ : ∃ x, x = a + b * 256 := ⟨_, rfl⟩
  rw [← hx] at h1 h2 h3 ⊢
  obtain ⟨y, hy⟩ : ∃ y, y = x + c * 65536 := ⟨_, rfl⟩
  rw [← hy] at h2 h3 ⊢
  obtain ⟨z, hz⟩ : ∃ z, z = y + d * 16777216 := ⟨_, rfl⟩
  rw [← hz] at h3 ⊢
  have hxl : x < 65536 := by omega
  have hyl : y < 16777216 := by omega
  have hzl : z < 4294967296 := by omega
  clear hx hy hz
  go_wp2
  go_region
  go_wp2
  go_ret
  exact ⟨rfl, rfl⟩
end Go.Proofs.Zip
