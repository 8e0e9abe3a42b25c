/- A part of a proof over the given program: Utf, Sig, FullPart. Nothing is assumed here. -/
import Derived.Test.YtidmhfhfcoljeaaGreatDoorZA
import Derived.Test.YtidmhfhfcoljeaaGreatDoorShelf
import Derived.Lib.TrimU
import Derived.Lib.QuoteLoop
import Derived.Deep.DeepCutAuto
import Derived.Test.YtidmhfhfcoljeaaGreatDoorZC
import Derived.Test.YtidmhfhfcoljeaaGreatDoorZE
namespace Go.Proofs.Zip
open Go Go.RowKit

/-- Whether a text is UTF-8, and whether it must be told so: by at most n runes. -/
def detectN : Nat → List UInt8 → Bool → Bool × Bool
  | 0, _, q => (true, q)
  | n + 1, l, q =>
    if l = [] then (true, q)
    else if (Lib.decodeGo (B l)).1 < 32 ∨ (Lib.decodeGo (B l)).1 > 125 ∨ (Lib.decodeGo (B l)).1 = 92 then
      (if Lib.validRune (Lib.decodeGo (B l)).1 = false ∨ ((Lib.decodeGo (B l)).1 = 65533 ∧ (Lib.decodeGo (B l)).2 = 1) then (false, false) else detectN n (l.drop (Lib.decodeGo (B l)).2) true)
    else detectN n (l.drop (Lib.decodeGo (B l)).2) q
def detect (l : List UInt8) : Bool × Bool := detectN l.length l false
theorem decodeGo_pos (s : ByteArray) (h : s.size ≠ 0) : 1 ≤ (Lib.decodeGo s).2 := by
  unfold Lib.decodeGo; rw [if_neg h]; exact Lib.width_pos s 0
theorem decodeGo_rune (s : ByteArray) : (Lib.decodeGo s).1 ≤ 1114111 := by
  unfold Lib.decodeGo; split
  · decide
  · exact Lib.rune_le s 0
theorem decodeGo_le (s : ByteArray) (h : s.size ≠ 0) : (Lib.decodeGo s).2 ≤ s.size := by
  unfold Lib.decodeGo; rw [if_neg h]; exact Lib.width_le s (by omega)
theorem detectN_more (n m : Nat) (l : List UInt8) (q : Bool) (h : l.length ≤ n) (h2 : n ≤ m) : detectN m l q = detectN n l q := by
  induction n generalizing m l q with
  | zero => obtain rfl : l = [] := List.eq_nil_of_length_eq_zero (by omega); cases m <;> simp [detectN]
  | succ n ih =>
    obtain ⟨m, rfl⟩ : ∃ k, m = k + 1 := ⟨m - 1, by omega⟩
    simp only [detectN]
    by_cases hl : l = []
    · simp [hl]
    · have hp := decodeGo_pos (B l) (by simpa using hl)
      have hd : (l.drop (Lib.decodeGo (B l)).2).length ≤ n := by simp; omega
      rw [if_neg hl, if_neg hl, ih m _ _ hd (by omega), ih m _ _ hd (by omega)]
set_option maxRecDepth 100000 in
set_option maxHeartbeats 1000000 in
theorem detect_any (l : List UInt8) (w : World) (hT : Lib.Utf8Tabs 12 13 w) (h1 : 12 < w.heap.size) (h2 : 13 < w.heap.size) (hl : l.length ≤ 4611686018427387904) :
    Calls Tryz.prog 70 #[.string (B l)] w fun e w' => e = .returned (.tuple #[.bool (detect l).1, .bool (detect l).2]) ∧ Below w.heap.size w w' := by
  go_enter Tryz.func70, Tryz.ntmps70
  have HT := Lib.hid hT
  clear hT
  go_wp2
  go_loopw [4, 3] (fun v4 v3 wr => ∃ (k : Nat) (q : Bool), v4 = .int .i64 k ∧ v3 = .bool q ∧ k ≤ l.length ∧ Hid (detect l = detectN (l.length - k) (l.drop k) q) ∧ Below w.heap.size w wr) (fun v4 _ _ => l.length - (intOf v4).toNat)
  case atStart => exact ⟨0, false, rfl, rfl, Nat.zero_le _, Lib.hid rfl, Below.refl _ _⟩
  case round =>
    obtain ⟨k, q, rfl, rfl, hk, hd, hb⟩ := hrel
    by_cases hlt : k < l.length
    · have hTr : Lib.Utf8Tabs 12 13 wr := by
        refine ⟨fun c hc => ?_, fun i hi => ⟨?_, ?_⟩⟩
        · rw [bcell hb _ _ h1]; exact HT.out.1 c hc
        · rw [bcell hb _ _ h2]; exact (HT.out.2 i hi).1
        · rw [bcell hb _ _ h2]; exact (HT.out.2 i hi).2
      have hne : (B (l.drop k)).size ≠ 0 := by simp; omega
      obtain ⟨r, hr⟩ : ∃ r, Hid (r = (Lib.decodeGo (B (l.drop k))).1) := ⟨_, Lib.hid rfl⟩
      obtain ⟨n, hn⟩ : ∃ n, Hid (n = (Lib.decodeGo (B (l.drop k))).2) := ⟨_, Lib.hid rfl⟩
      have HC : Hid (Calls Tryz.prog 97 #[.string (B (l.drop k))] wr fun e w' => e = .returned (.tuple #[.int .i32 r, .int .i64 n]) ∧ Below wr.heap.size wr w') := Lib.hid (by
        rw [hr.out, hn.out]; exact Tryz.utf8_DecodeRuneInString (B (l.drop k)) wr hTr)
      have hn1 : 1 ≤ n := by rw [hn.out]; exact decodeGo_pos _ hne
      have hn2 : n ≤ l.length - k := by rw [hn.out]; have := decodeGo_le _ hne; simpa using this
      have hrl : r ≤ 1114111 := by rw [hr.out]; exact decodeGo_rune _
      clear hTr hne
      go_upto_region 5 with (go_at_call 97; refine HC.out.mono ?_; rintro e w1 ⟨rfl, hb1⟩)
      have hb2 := below_up hb hb1
      have hstep : ∀ q', Hid (detectN (l.length - k) (l.drop k) q = detectN (l.length - (k + n)) (l.drop (k + n)) q') → (∃ (k' : Nat) (q'' : Bool), Value.int .i64 ((k : Int) + n) = .int .i64 k' ∧ Value.bool q' = .bool q'' ∧ k' ≤ l.length ∧ Hid (detect l = detectN (l.length - k') (l.drop k') q'') ∧ Below w.heap.size w w1) := fun q' h => ⟨k + n, q', by simp, rfl, by omega, Lib.hid (hd.out.trans h.out), hb2⟩
      have hun : detectN (l.length - k) (l.drop k) q = if (r : Nat) < 32 ∨ r > 125 ∨ r = 92 then (if Lib.validRune r = false ∨ (r = 65533 ∧ n = 1) then (false, false) else detectN (l.length - (k + n)) (l.drop (k + n)) true) else detectN (l.length - (k + n)) (l.drop (k + n)) q := by
        obtain ⟨m, hm⟩ : ∃ m, l.length - k = m + 1 := ⟨l.length - k - 1, by omega⟩
        have hne : ¬ l.drop k = [] := by intro h; have := congrArg List.length h; simp at this; omega
        rw [hm, detectN, if_neg hne, ← hr.out, ← hn.out, List.drop_drop]
        rw [detectN_more (l.length - (k + n)) m _ _ (by simp) (by omega), detectN_more (l.length - (k + n)) m _ _ (by simp) (by omega)]
      have HUN := Lib.hid hun
      have HSTEP := Lib.hid hstep
      clear hun hstep hr hn HC
      by_cases hc : r < 32 ∨ r > 125 ∨ r = 92
      · have hun := HUN.out
        rw [if_pos hc] at hun
        have HUN := Lib.hid hun
        clear hun
        have g : (r : Int) < 32 ∨ (¬ (r : Int) < 32 ∧ (125 : Int) < r) ∨ (¬ (r : Int) < 32 ∧ ¬ (125 : Int) < r ∧ ((r : Int) == 92) = true) := by simp; omega
        clear hc
        cases hv : Lib.validRune (r : Int) with
        | false =>
          have hun := HUN.out
          rw [if_pos (.inl hv)] at hun
          have hdd := hd.out.trans hun
          have HDD := Lib.hid hdd
          clear hun hdd
          rcases g with g | ⟨g, g'⟩ | ⟨g, g', g''⟩
          all_goals (
            go_wp2_with (go_at_call 98; refine (Tryz.utf8_ValidRune r _).mono ?_; rintro e w2 ⟨rfl, rfl⟩)
            go_ret2
            exact ⟨by rw [HDD.out]; rfl, hb2⟩)
        | true =>
          by_cases hbad : r = 65533 ∧ n = 1
          · have hun := HUN.out
            rw [if_pos (.inr hbad)] at hun
            have hdd := hd.out.trans hun
            have HDD := Lib.hid hdd
            clear hun hdd
            obtain ⟨rfl, rfl⟩ := hbad
            go_wp2_with (go_at_call 98; refine (Tryz.utf8_ValidRune _ _).mono ?_; rintro e w2 ⟨rfl, rfl⟩)
            go_ret2
            exact ⟨by rw [HDD.out]; rfl, hb2⟩
          · have hun := HUN.out
            rw [if_neg (by rintro (h | h); rw [hv] at h; cases h; exact hbad h)] at hun
            have hs := Lib.hid (HSTEP.out true (Lib.hid hun))
            have b : ((r : Int) == 65533) = false ∨ (((r : Int) == 65533) = true ∧ ((n : Int) == 1) = false) := by simp; omega
            clear hun hbad
            rcases g with g | ⟨g, g'⟩ | ⟨g, g', g''⟩
            all_goals (
              rcases b with b | ⟨b, b'⟩
              all_goals (
                go_wp2_with (go_at_call 98; refine (Tryz.utf8_ValidRune r _).mono ?_; rintro e w2 ⟨rfl, rfl⟩)
                exact ⟨hs.out, by simp [intOf]; omega⟩))
      · have hun := HUN.out
        rw [if_neg hc] at hun
        have hs := Lib.hid (HSTEP.out q (Lib.hid hun))
        have g1 : ¬ (r : Int) < 32 := by omega
        have g2 : ¬ (125 : Int) < r := by omega
        have g3 : ((r : Int) == 92) = false := by simp; omega
        clear hun hc
        go_wp2
        exact ⟨hs.out, by simp [intOf]; omega⟩
    · obtain rfl : k = l.length := by omega
      go_wp2
      go_ret2
      have := hd.out
      rw [Nat.sub_self] at this
      refine ⟨?_, hb⟩
      rw [this]; rfl
end Go.Proofs.Zip
namespace Go.Proofs.Zip
open Go Go.RowKit
/-- The byte at a place. -/
def byteAt (l : List UInt8) (i : Nat) : Nat := (l[i]?.getD 0).toNat
theorem byteAt_lt (l : List UInt8) (i : Nat) : byteAt l i < 256 := UInt8.toNat_lt _
/-- The mark of an end stands at i. -/
def sigAt (l : List UInt8) (i : Nat) : Prop := byteAt l i = 80 ∧ byteAt l (i + 1) = 75 ∧ byteAt l (i + 2) = 5 ∧ byteAt l (i + 3) = 6
instance (l : List UInt8) (i : Nat) : Decidable (sigAt l i) := by unfold sigAt; infer_instance
/-- The last mark of an end among the first n places. -/
def findSig (l : List UInt8) : Nat → Int
  | 0 => -1
  | i + 1 => if sigAt l i then (if byteAt l (i + 20) + 256 * byteAt l (i + 21) + 22 + i > l.length then -1 else i) else findSig l i
theorem byte_cell {w : World} {g : Nat} {l : List UInt8} (h : w.rangeAt g 0 (u8s l)) (i : Nat) (hi : i < l.length) : w.cell? ⟨g, i, none⟩ = some (.int .u8 (byteAt l i)) := by
  have := h i (.int .u8 (byteAt l i)) (by simp [u8s, byteAt, hi])
  simpa using this
theorem or64 (m n : Nat) (hm : m < 256) (hn : n < 256) : bits .or .i64 (m : Int) ((n : Int) * 256) = (m + 256 * n : Nat) := by
  have e : ((n : Int) * 256) = ((n * 256 : Nat) : Int) := by simp
  have hx : m ||| n * 256 < 2 ^ 16 := Nat.or_lt_two_pow (by omega) (by omega)
  have o : ∀ a : Nat, a < 65536 → (BitVec.ofInt 64 (a : Int)).toNat = a := fun a ha => by
    rw [BitVec.ofInt_natCast, BitVec.toNat_ofNat]; exact Nat.mod_eq_of_lt (by omega)
  have hs := or_shift m n 8 (by omega)
  rw [e]
  show IntKind.i64.wrap ((BitVec.ofInt 64 (m : Int) ||| BitVec.ofInt 64 ((n * 256 : Nat) : Int)).toNat : Int) = _
  rw [BitVec.toNat_or, o m (by omega), o (n * 256) (by omega)]
  simp only [Nat.reducePow] at hs hx
  rw [hs]
  go_arith
set_option maxRecDepth 100000 in
set_option maxHeartbeats 1000000 in
theorem findSig_any (g cap : Nat) (l : List UInt8) (w : World) (h : w.rangeAt g 0 (u8s l)) (hl : l.length ≤ 4611686018427387904) :
    Calls Tryz.prog 111 #[.slice (some ⟨g, 0, none⟩) l.length cap] w fun e w' => e = .returned (.int .i64 (findSig l (l.length - 21))) ∧ Fr (fun _ => False) w w' := by
  go_enter Tryz.func111, Tryz.ntmps111
  have HH := Lib.hid h
  clear h
  go_wp2
  go_loop [3] (fun v3 => ∃ z : Int, v3 = .int .i64 z ∧ -22 ≤ z ∧ z + 22 ≤ l.length ∧ Hid (findSig l (l.length - 21) = findSig l (z + 1).toNat)) (fun v3 => (intOf v3 + 1).toNat)
  case atStart => exact ⟨_, rfl, by omega, by omega, Lib.hid (by congr 1; omega)⟩
  case round =>
    obtain ⟨z, rfl, hz1, hz2, hz⟩ := hrel
    by_cases hneg : z < 0
    · have e : (z + 1).toNat = 0 := by omega
      go_wp2
      go_ret
      refine ⟨?_, Fr.refl _ _⟩
      rw [hz.out, e]; rfl
    · obtain ⟨i, rfl⟩ : ∃ i : Nat, z = i := ⟨z.toNat, by omega⟩
      have hil : i + 22 ≤ l.length := by omega
      clear hneg hz1 hz2
      have e : ((i : Int) + 1).toNat = i + 1 := by omega
      rw [e] at hz
      clear e
      have c0 := byte_cell HH.out i (by omega)
      have c1 := byte_cell HH.out (i + 1) (by omega)
      have c2 := byte_cell HH.out (i + 2) (by omega)
      have c3 := byte_cell HH.out (i + 3) (by omega)
      have c20 := byte_cell HH.out (i + 20) (by omega)
      have c21 := byte_cell HH.out (i + 21) (by omega)
      have hor := or64 (byteAt l (i + 20)) (byteAt l (i + 21)) (byteAt_lt _ _) (byteAt_lt _ _)
      have b20 := byteAt_lt l (i + 20)
      have b21 := byteAt_lt l (i + 21)
      by_cases hs : sigAt l i
      · have h0 : ((byteAt l i : Int) == 80) = true := by simp; exact_mod_cast hs.1
        have h1 : ((byteAt l (i + 1) : Int) == 75) = true := by simp; exact_mod_cast hs.2.1
        have h2 : ((byteAt l (i + 2) : Int) == 5) = true := by simp; exact_mod_cast hs.2.2.1
        have h3 : ((byteAt l (i + 3) : Int) == 6) = true := by simp; exact_mod_cast hs.2.2.2
        have hf : findSig l (i + 1) = if byteAt l (i + 20) + 256 * byteAt l (i + 21) + 22 + i > l.length then -1 else (i : Int) := by rw [findSig, if_pos hs]
        clear hs
        have e1 : (i : Int) + 22 - 2 = ((i + 20 : Nat) : Int) := by omega
        have e2 : (i : Int) + 22 - 1 = ((i + 21 : Nat) : Int) := by omega
        obtain ⟨N, hN⟩ : ∃ N, N = byteAt l (i + 20) + 256 * byteAt l (i + 21) := ⟨_, rfl⟩
        rw [← hN] at hor hf
        have hN2 : N < 65536 := by omega
        have hzf := Lib.hid (hz.out.trans hf)
        clear hf hz hN
        by_cases hb : N + 22 + i > l.length
        · have hb' : ((l.length : Int) < (N : Int) + 22 + i) := by omega
          have hres := hzf.out
          rw [if_pos hb] at hres
          have HRES := Lib.hid hres
          clear hres hzf hb
          go_upto_region 5 with fail
          go_region
          go_wp2
          go_ret
          exact ⟨by rw [HRES.out]; rfl, (Fr.refl _ _).drew⟩
        · have hb' : ¬ ((l.length : Int) < (N : Int) + 22 + i) := by omega
          have hres := hzf.out
          rw [if_neg hb] at hres
          have HRES := Lib.hid hres
          clear hres hzf hb
          go_upto_region 5 with fail
          go_region
          go_wp2
          go_ret
          exact ⟨by rw [HRES.out]; rfl, (Fr.refl _ _).drew⟩
      · have hf : findSig l (i + 1) = findSig l i := by rw [findSig, if_neg hs]
        have HF := Lib.hid (hz.out.trans hf)
        clear hf hz hor c20 c21
        have h0 : ((byteAt l i : Int) == 80) = false ∨ (((byteAt l i : Int) == 80) = true ∧ ((byteAt l (i + 1) : Int) == 75) = false) ∨ (((byteAt l i : Int) == 80) = true ∧ ((byteAt l (i + 1) : Int) == 75) = true ∧ ((byteAt l (i + 2) : Int) == 5) = false) ∨ (((byteAt l i : Int) == 80) = true ∧ ((byteAt l (i + 1) : Int) == 75) = true ∧ ((byteAt l (i + 2) : Int) == 5) = true ∧ ((byteAt l (i + 3) : Int) == 6) = false) := by
          simp only [beq_iff_eq, beq_eq_false_iff_ne, ne_eq]; unfold sigAt at hs; omega
        clear hs
        rcases h0 with h0 | ⟨h0, h1⟩ | ⟨h0, h1, h2⟩ | ⟨h0, h1, h2, h3⟩
        all_goals (
          go_wp2
          exact ⟨⟨(i : Int) - 1, rfl, by omega, by omega, Lib.hid (by rw [HF.out]; first | (congr 1; done) | (congr 1; omega))⟩, by first | (simp [intOf]; done) | (simp [intOf]; omega)⟩)
end Go.Proofs.Zip
namespace Go.Proofs.Zip
open Go Go.RowKit
/-- A part of the text a at s that still gives l. -/
def IsPt (w : World) (s a : Nat) (base n : Int) (D : List UInt8) (lim : Nat) (l : List UInt8) : Prop := ∃ off : Nat, IsPart w s a base off lim n ∧ IsText w a D ∧ l = rest D off lim
theorem IsPt.fr {S : Nat → Prop} {w w' : World} {s a : Nat} {base n : Int} {D : List UInt8} {lim : Nat} {l : List UInt8} (h : IsPt w s a base n D lim l) (f : Fr S w w') (h1 : ¬ S s) (h2 : ¬ S a) : IsPt w' s a base n D lim l := by
  obtain ⟨off, hp, ht, e⟩ := h
  exact ⟨off, f.blk hp h1, f.blk ht h2, e⟩
theorem ptRead_any (s a g o len cap lim : Nat) (base n : Int) (D l : List UInt8) (cur : Array Value) (t : TypeId) (eEOF : Addr) (w : World) (hb : IsPt w s a base n D lim l) (hg : Blk w g cur t) (hfit : o + len ≤ cur.size) (hE : Sen w 5 eEOF)
    (hlen : 0 < len) (hcap : len ≤ cap) (hlen2 : len ≤ 4611686018427387904) (hlim : lim ≤ 4611686018427387904) (hD : D.length ≤ 4611686018427387904) (hd : g ≠ s ∧ g ≠ a ∧ s ≠ a ∧ g ≠ 5) :
    Calls Tryz.prog 195 #[.pointer (some ⟨s, 0, none⟩), .slice (some ⟨g, o, none⟩) len cap] w fun e w' => ∃ (k : Nat) (r : Value), e = .returned (.tuple #[.int .i64 k, r]) ∧ k ≤ len ∧ k ≤ l.length ∧ (l ≠ [] → 0 < k) ∧ (r = .nilIface ∨ r = errv eEOF ∧ l.drop k = []) ∧ (l = [] → r = errv eEOF) ∧
      Blk w' g (put cur o (l.take k)) t ∧ IsPt w' s a base n D lim (l.drop k) ∧ Fr (fun b => b = g ∨ b = s) w w' := by
  obtain ⟨off, hp, ht, rfl⟩ := hb
  obtain ⟨r, h1, h2, HC⟩ := partRead_any s a g o len cap off lim base n D cur t eEOF w ht hp hg hfit hE hd.2.2.2 hd.2.1 hd.1 hlen hcap hlen2 hlim hD
  refine HC.mono ?_
  rintro e w' ⟨rfl, hgw, hpw, hfw⟩
  have hln : (rest D off lim).take ((rest D off lim).take len).length = (rest D off lim).take len := by simp [List.take_eq_take_iff]
  have hld : (rest D off lim).drop ((rest D off lim).take len).length = (rest D off lim).drop len := by
    rw [List.length_take]
    by_cases hq : len ≤ (rest D off lim).length
    · rw [Nat.min_eq_left hq]
    · rw [Nat.min_eq_right (by omega), drop_nil_of_le (Nat.le_refl _), drop_nil_of_le (by omega)]
  refine ⟨_, r, rfl, by simp; omega, by simp; omega, fun hne => ?_, ?_, h2, ?_, ⟨_, hpw, hfw.blk ht ?_, ?_⟩, hfw⟩
  · have := List.length_pos_iff.2 hne; simp; omega
  · rw [hld]; exact h1
  · rw [hln]; exact hgw
  · rintro (h | h)
    · exact hd.2.1 h.symm
    · exact hd.2.2.1 h.symm
  · rw [rest_drop]
set_option maxRecDepth 100000 in
set_option maxHeartbeats 2000000 in
theorem readAtLeastPt_any (s a g len cap lim : Nat) (base n : Int) (D l : List UInt8) (cur : Array Value) (t : TypeId) (eEOF eUnx : Addr) (w : World) (hb : IsPt w s a base n D lim l) (hg : Blk w g cur t) (hfit : len ≤ cur.size) (N0 : Nat) (hE : SenL w N0 5 eEOF) (hU : SenL w N0 4 eUnx) (hN : ∀ b, b = g ∨ b = s → N0 ≤ b)
    (hcap : len ≤ cap) (hlen2 : len ≤ 4611686018427387904) (hlim : lim ≤ 4611686018427387904) (hD : D.length ≤ 4611686018427387904) (hd : g ≠ s ∧ g ≠ a ∧ s ≠ a ∧ g ≠ 5) :
    Calls Tryz.prog 144 #[partv s, .slice (some ⟨g, 0, none⟩) len cap, .int .i64 len] w fun e w' => e = .returned (.tuple #[.int .i64 (l.take len).length, fullErr len l eEOF eUnx]) ∧
      Blk w' g (put cur 0 (l.take len)) t ∧ IsPt w' s a base n D lim (l.drop len) ∧ Fr (fun b => b = g ∨ b = s) w w' := by
  go_enter Tryz.func144, Tryz.ntmps144
  have HB := Lib.hid hb
  have HG := Lib.hid hg
  have HE := Lib.hid hE
  have HU := Lib.hid hU
  have HN := Lib.hid hN
  clear hb hg hE hU hN
  go_wp2
  go_loopw [7, 6] (fun v7 v6 wr => ∃ (k : Nat) (r : Value), v6 = .int .i64 k ∧ v7 = r ∧ k ≤ len ∧ k ≤ l.length ∧ Hid (r = .nilIface ∨ r = errv eEOF ∧ l.drop k = []) ∧ Hid (Blk wr g (put cur 0 (l.take k)) t ∧ IsPt wr s a base n D lim (l.drop k) ∧ Fr (fun b => b = g ∨ b = s) w wr)) (fun v7 v6 _ => 2 * (len - (intOf v6).toNat) + nil1 v7)
  case atStart =>
    exact ⟨0, .nilIface, rfl, rfl, Nat.zero_le _, Nat.zero_le _, Lib.hid (.inl rfl), Lib.hid ⟨by rw [List.take_zero, put_nil]; exact HG.out, HB.out, Fr.refl _ _⟩⟩
  case round =>
    obtain ⟨k, r, rfl, rfl, hk, hkl, hr, hw⟩ := hrel
    have ceq := eql_same eEOF
    have hna := fun n w => nilAhead_part n s w
    have he : wr.cell? ⟨5, 0, none⟩ = some (errv eEOF) := (HE.out.fr hw.out.2.2 HN.out).sen.cell
    have hu : wr.cell? ⟨4, 0, none⟩ = some (errv eUnx) := (HU.out.fr hw.out.2.2 HN.out).sen.cell
    by_cases hlt : k < len
    · have hsm : (k : Int) < len := by omega
      rcases hr.out with rfl | ⟨rfl, hnil⟩
      · clear hr
        go_upto_region 5 with fail
        obtain ⟨m, hm⟩ : ∃ m, Hid (m = l.drop k) := ⟨_, Lib.hid rfl⟩
        have HC : Hid (∀ w', Fr (fun _ => False) wr w' → Calls Tryz.prog 195 #[.pointer (some ⟨s, 0, none⟩), .slice (some ⟨g, k, none⟩) (len - k) (cap - k)] w' fun e w'' => ∃ (k' : Nat) (r : Value), e = .returned (.tuple #[.int .i64 k', r]) ∧ Hid (k' ≤ len - k ∧ k' ≤ m.length ∧ (m ≠ [] → 0 < k') ∧ (m = [] → r = errv eEOF)) ∧ Hid (r = .nilIface ∨ r = errv eEOF ∧ l.drop (k + k') = []) ∧ Hid (Blk w'' g (put cur 0 (l.take (k + k'))) t ∧ IsPt w'' s a base n D lim (l.drop (k + k')) ∧ Fr (fun b => b = g ∨ b = s) w w'')) := by
          refine Lib.hid fun w' hw' => ?_
          obtain ⟨hg1, hb1, hf1⟩ := hw.out
          have hb1' := hb1.fr hw' id id
          have hlk : (l.take k).length = k := by simp; omega
          have hE' : Sen w' 5 eEOF := (HE.out.fr hf1 HN.out).sen.fr hw' id id
          refine (ptRead_any s a g k (len - k) (cap - k) lim base n D (l.drop k) (put cur 0 (l.take k)) t eEOF w' hb1' (hw'.blk hg1 id) (by rw [size_put _ _ _ (by omega)]; omega) hE' (by omega) (by omega) (by omega) hlim hD hd).mono ?_
          rintro e w'' ⟨k', r, rfl, h1, h2, h3, h4, h5, h6, h7, h8⟩
          refine ⟨k', r, rfl, Lib.hid ⟨h1, by rw [hm.out]; exact h2, by rw [hm.out]; exact h3, by rw [hm.out]; exact h5⟩, Lib.hid ?_, Lib.hid ⟨?_, ?_, ?_⟩⟩
          · rw [← List.drop_drop]; exact h4
          · have := put_put cur 0 (l.take k) ((l.drop k).take k') (by simp at h2 ⊢; omega)
            rw [hlk, Nat.zero_add, ← List.take_add] at this
            rw [← this]; exact h6
          · rw [← List.drop_drop]; exact h7
          · exact (hf1.trans2 hw' (fun _ h => h) (fun _ h => h.elim)).trans2 h8 (fun _ h => h) (fun _ h => h)
        have hck : ¬ cap = k := by omega
        go_region_with (go_at_call 195; refine (HC.out _ ?hh).mono ?_; (case hh => exact (Fr.refl _ _).drew); rintro e w' ⟨k', r, rfl, hk', hr', hw'⟩)
        all_goals (
          have hkk : k + k' ≤ len := by have := hk'.out.1; omega
          go_wp2
          have h1 := hk'.out
          rw [hm.out, List.length_drop] at h1
          rw [show ((k : Int) + k') = ((k + k' : Nat) : Int) by omega] at *
          refine ⟨⟨k + k', r, rfl, rfl, hkk, by omega, hr', hw'⟩, ?_⟩
          by_cases hz : k' = 0
          · have hml : m = [] := by
              apply Classical.byContradiction; intro h; have := hk'.out.2.2.1 h; omega
            obtain rfl := hk'.out.2.2.2 hml
            simp [intOf, hz, nil1]
          · have hq := nil1_le r
            have hq1 : nil1 .nilIface = 1 := rfl
            simp only [intOf, Int.toNat_natCast, hq1] at *
            omega)
      · clear hr
        have hl : Hid (k = l.length) := Lib.hid (by rw [List.drop_eq_nil_iff] at hnil; omega)
        clear hnil
        by_cases hk0 : k = 0
        · subst hk0
          obtain rfl : l = [] := List.eq_nil_of_length_eq_zero hl.out.symm
          clear hl hkl
          go_wp2
          go_ret2
          have hw2 := hw.out
          rw [List.take_nil, List.drop_nil] at hw2
          rw [List.take_nil, List.drop_nil]
          refine ⟨?_, hw2⟩
          simp [fullErr]; omega
        · have hkp : (0 : Int) < k := by omega
          have hkl2 : ¬ (len : Int) ≤ k := by omega
          have hne : ¬ l = [] := by intro h; rw [h] at hl; exact hk0 (by simpa using hl.out)
          clear hk0
          have HNE := Lib.hid hne
          clear hne
          go_wp2
          go_ret2
          have hll := hl.out
          have e1 : l.take len = l.take k := by rw [List.take_eq_take_iff]; omega
          have e2 : l.drop len = l.drop k := by rw [drop_nil_of_le (by omega), drop_nil_of_le (by omega)]
          rw [e1, e2]
          refine ⟨?_, hw.out⟩
          rw [fullErr, if_neg (by omega), if_neg HNE.out]
          simp; omega
    · have hsm : ¬ (k : Int) < len := by omega
      clear hr
      obtain rfl : k = len := by omega
      go_wp2
      go_ret2
      refine ⟨?_, hw.out⟩
      rw [fullErr, if_pos (by omega)]
      simp
set_option maxRecDepth 100000 in
theorem readFullPt_any (s a g len cap lim : Nat) (base n : Int) (D l : List UInt8) (cur : Array Value) (t : TypeId) (eEOF eUnx : Addr) (w : World) (hb : IsPt w s a base n D lim l) (hg : Blk w g cur t) (hfit : len ≤ cur.size) (N0 : Nat) (hE : SenL w N0 5 eEOF) (hU : SenL w N0 4 eUnx) (hN : ∀ b, b = g ∨ b = s → N0 ≤ b)
    (hcap : len ≤ cap) (hlen2 : len ≤ 4611686018427387904) (hlim : lim ≤ 4611686018427387904) (hD : D.length ≤ 4611686018427387904) (hd : g ≠ s ∧ g ≠ a ∧ s ≠ a ∧ g ≠ 5) :
    Calls Tryz.prog 115 #[partv s, .slice (some ⟨g, 0, none⟩) len cap] w fun e w' => e = .returned (.tuple #[.int .i64 (l.take len).length, fullErr len l eEOF eUnx]) ∧
      Blk w' g (put cur 0 (l.take len)) t ∧ IsPt w' s a base n D lim (l.drop len) ∧ Fr (fun b => b = g ∨ b = s) w w' := by
  have HC := Lib.hid (readAtLeastPt_any s a g len cap lim base n D l cur t eEOF eUnx w hb hg hfit N0 hE hU hN hcap hlen2 hlim hD hd)
  clear hb hg hE hU hN hd
  go_enter Tryz.func115, Tryz.ntmps115
  go_wp2_with (go_at_call 144; refine HC.out.mono ?_; rintro e w' ⟨rfl, h⟩)
  go_ret2
  exact ⟨by simp, h⟩
end Go.Proofs.Zip
