/- A part of a proof over the given program: Wb, Bw2, Bw3. Nothing is assumed here. -/
import Derived.Test.YtidmhfhfcoljeaaGreatDoorZW
import Derived.Test.YtidmhfhfcoljeaaGreatDoorZC
import Derived.Test.YtidmhfhfcoljeaaGreatDoorZI
import Derived.Laws.IdiomStrings
namespace Go.Proofs.Zip
open Go Go.RowKit
/-! writeBuf: numbers laid into a row, the lowest byte first. -/
/-- A row of n bytes, all 0. -/
def zeroA (n : Nat) : Array Value := Array.replicate n (.int .u8 0)
theorem size_zeroA (n : Nat) : (zeroA n).size = n := by simp [zeroA]
theorem get_zeroA (n i : Nat) (h : i < n) : (zeroA n)[i]? = some (.int .u8 0) := by simp [zeroA, h]
/-- 'var buf [n]byte'. -/
theorem wpList_alloc_zero {P : Program} {ops : Array Oper} {rest : List Oper} {o : Oper} {a : Act} {w : World} {Q : Exit → Act → World → Prop} (hg : o.guard = none) (T : TypeId) (ho : o.op = .alloc T) (n : Nat)
    (hi : (P.info? T).map (fun i => i.zero.map (·.cells)) = some (some (zeroA n)))
    (h : wpList P ops Q rest (a.put o.dst (.pointer (some ⟨w.heap.size, 0, none⟩))) (w.alloc (.cells (zeroA n) T))) : wpList P ops Q (o :: rest) a w := by
  cases hq : P.info? T with
  | none => simp [hq] at hi
  | some i =>
    simp [hq] at hi
    obtain ⟨z, hz, hzs⟩ := hi
    refine wpList_plain hg fun K hK => ?_
    have h3 := hK _ _ h
    rw [← hzs] at h3
    unfold Oper.wp execOp
    simp [ho, Instr.alloc, zeroValue, typeInfo, hq, hz, newVar, newRow]
    exact h3
/-- 'make([]byte, n)', n a number of the text. -/
theorem leB_two (x : Nat) (h : x < 65536) : leB 2 (x : Int) = [UInt8.ofNat (x % 256), UInt8.ofNat (x / 256)] := by
  have e1 : ((x : Int).tmod 256 % 256).toNat = x % 256 := by rw [Int.tmod_eq_emod_of_nonneg (by omega)]; omega
  have e2 : (x : Int).tdiv 256 = ((x / 256 : Nat) : Int) := by rw [Int.tdiv_eq_ediv_of_nonneg (by omega)]; omega
  have e3 : wrap64 (((x / 256 : Nat) : Int)) = ((x / 256 : Nat) : Int) := by unfold wrap64; omega
  have e4 : ((((x / 256 : Nat) : Int)).tmod 256 % 256).toNat = x / 256 := by rw [Int.tmod_eq_emod_of_nonneg (by omega)]; omega
  simp only [leB, e1, e2, e3, e4]
theorem leB_four (x : Nat) (h : x < 4294967296) : leB 4 (x : Int) = leB 2 ((x % 65536 : Nat) : Int) ++ leB 2 ((x / 65536 : Nat) : Int) := by
  rw [leB_two _ (by omega), leB_two _ (by omega)]
  have e1 : ((x : Int).tmod 256 % 256).toNat = x % 256 := by rw [Int.tmod_eq_emod_of_nonneg (by omega)]; omega
  have e2 : (x : Int).tdiv 256 = ((x / 256 : Nat) : Int) := by rw [Int.tdiv_eq_ediv_of_nonneg (by omega)]; omega
  have e3 : ∀ y : Nat, y < 4294967296 → wrap64 ((y : Nat) : Int) = (y : Int) := fun y hy => by unfold wrap64; omega
  have e4 : ∀ y : Nat, ((y : Int).tmod 256 % 256).toNat = y % 256 := fun y => by rw [Int.tmod_eq_emod_of_nonneg (by omega)]; omega
  have e5 : ∀ y : Nat, (y : Int).tdiv 256 = ((y / 256 : Nat) : Int) := fun y => by rw [Int.tdiv_eq_ediv_of_nonneg (by omega)]; omega
  simp only [leB, e4, e5, e3 _ (show x / 256 < 4294967296 by omega), e3 _ (show x / 256 / 256 < 4294967296 by omega), e3 _ (show x / 256 / 256 / 256 < 4294967296 by omega)]
  have f1 : x % 65536 % 256 = x % 256 := by omega
  have f2 : x % 65536 / 256 = x / 256 % 256 := by omega
  have f3 : x / 65536 % 256 = x / 256 / 256 % 256 := by omega
  have f4 : x / 65536 / 256 = x / 256 / 256 / 256 % 256 := by omega
  rw [f1, f2, f3, f4]
  rfl
theorem set_two (cs : Array Value) (o : Nat) (x y : UInt8) (h : o + 2 ≤ cs.size) : (cs.setIfInBounds o (.int .u8 (x.toNat : Int))).setIfInBounds (o + 1) (.int .u8 (y.toNat : Int)) = put cs o [x, y] := by
  apply Array.ext_getElem?
  intro i
  rw [put_get _ _ _ (by simpa using h)]
  simp only [Array.getElem?_setIfInBounds, Array.size_setIfInBounds, List.length_cons, List.length_nil]
  by_cases h1 : i = o
  · subst h1
    rw [if_neg (by omega), if_pos rfl, if_pos (by omega), if_pos (by omega)]
    simp [u8s]
  · by_cases h2 : i = o + 1
    · subst h2
      rw [if_pos rfl, if_pos (by omega), if_pos (by omega)]
      simp [u8s]
    · rw [if_neg (by omega), if_neg (by omega), if_neg (by omega)]
set_option maxRecDepth 100000 in
theorem lePut16_any (g o len cap x : Nat) (cs : Array Value) (t : TypeId) (w : World) (h : Blk w g cs t) (hx : x < 65536) (hlen : 2 ≤ len) (hs : o + 2 ≤ cs.size) :
    Calls Tryz.prog 106 #[.slice (some ⟨g, o, none⟩) len cap, .int .u16 x] w fun e w' => e = .returned (.tuple #[]) ∧ Blk w' g (put cs o (leB 2 x)) t ∧ Fr (· = g) w w' := by
  have e1 : ((x : Int) % 256) = (((UInt8.ofNat (x % 256)).toNat : Nat) : Int) := by
    rw [UInt8.toNat_ofNat']; omega
  have e2 : ((x : Int) / 256) = (((UInt8.ofNat (x / 256)).toNat : Nat) : Int) := by
    rw [UInt8.toNat_ofNat']; omega
  have c0 : w.cell? ⟨g, o, none⟩ = some cs[o] := by rw [h.cell]; exact Array.getElem?_eq_getElem (by omega)
  have f0 : w.frozen? ⟨g, o, none⟩ = false := h.frozen _
  have h1 := h.set o (.int .u8 ((x : Int) % 256))
  have h2 := h1.set (o + 1) (.int .u8 ((x : Int) / 256))
  have e3 : ((cs.setIfInBounds o (.int .u8 ((x : Int) % 256))).setIfInBounds (o + 1) (.int .u8 ((x : Int) / 256))) = put cs o (leB 2 x) := by
    rw [e1, e2, set_two cs o _ _ hs, leB_two x hx]
  rw [e3] at h2
  have H2 := Lib.hid h2
  have HF : Hid (Fr (· = g) w ((w.setCell ⟨g, o, none⟩ (.int .u8 ((x : Int) % 256))).setCell ⟨g, o + 1, none⟩ (.int .u8 ((x : Int) / 256)))) := Lib.hid (((Fr.refl (· = g) w).setCell (fun _ => rfl) _).setCell (fun _ => rfl) _)
  have c1 : (w.setCell ⟨g, o, none⟩ (.int .u8 ((x : Int) % 256))).cell? ⟨g, o + 1, none⟩ = some cs[o + 1] := by
    rw [h1.cell, Array.getElem?_setIfInBounds, if_neg (by omega)]; exact Array.getElem?_eq_getElem (by omega)
  have f1 : (w.setCell ⟨g, o, none⟩ (.int .u8 ((x : Int) % 256))).frozen? ⟨g, o + 1, none⟩ = false := h1.frozen _
  clear e1 e2 e3
  clear h h1 h2
  go_enter Tryz.func106, Tryz.ntmps106
  go_wp2
  go_end0
  exact ⟨rfl, H2.out, HF.out⟩
set_option maxRecDepth 100000 in
theorem lePut32_any (g o len cap x : Nat) (cs : Array Value) (t : TypeId) (w : World) (h : Blk w g cs t) (hx : x < 4294967296) (hlen : 4 ≤ len) (hcap : len ≤ cap) (hs : o + 4 ≤ cs.size) :
    Calls Tryz.prog 107 #[.slice (some ⟨g, o, none⟩) len cap, .int .u32 x] w fun e w' => e = .returned (.tuple #[]) ∧ Blk w' g (put cs o (leB 4 x)) t ∧ Fr (· = g) w w' := by
  have e1 : IntKind.u16.wrap ((x : Nat) : Int) = ((x % 65536 : Nat) : Int) := by rw [IntKind.wrap_u16]; omega
  have e2 : IntKind.u16.wrap ((x / 65536 : Nat) : Int) = ((x / 65536 : Nat) : Int) := by rw [IntKind.wrap_u16]; omega
  have hs1 : (2 : Int) ≤ len := by omega
  have hs2 : (len : Int) ≤ cap := by omega
  have hcp : ¬ cap = 2 := by omega
  have H1 := Lib.hid (lePut16_any g o len cap (x % 65536) cs t w h (by omega) (by omega) (by omega))
  have HL : Hid (leB 4 (x : Int) = leB 2 ((x % 65536 : Nat) : Int) ++ leB 2 ((x / 65536 : Nat) : Int)) := Lib.hid (leB_four x hx)
  clear h
  go_enter Tryz.func107, Tryz.ntmps107
  go_wp2_with fail
  refine H1.out.mono ?_
  rintro e w1 ⟨rfl, hb1, hf1⟩
  have H2 := Lib.hid (lePut16_any g (o + 2) (len - 2) (cap - 2) (x / 65536) _ t w1 hb1 (by omega) (by omega) (by rw [size_put _ _ _ (by simp; omega)]; omega))
  have HF1 := Lib.hid hf1
  clear H1 hb1 hf1
  go_wp2_with fail
  refine H2.out.mono ?_
  rintro e w2 ⟨rfl, hb2, hf2⟩
  have FIN : Hid (Blk w2 g (put cs o (leB 4 x)) t ∧ Fr (· = g) w w2) := Lib.hid ⟨by
    have e := put_put cs o (leB 2 ((x % 65536 : Nat) : Int)) (leB 2 ((x / 65536 : Nat) : Int)) (by simp; omega)
    rw [HL.out, ← e]
    simpa using hb2, HF1.out.trans hf2 (fun _ _ h => h)⟩
  clear H2 hb2 hf2 HF1
  go_wp2
  go_end0
  exact ⟨rfl, FIN.out⟩
/-- The writeBuf at v over the row g, which was zero: P is laid. -/
structure WB (w : World) (v g n : Nat) (P : List UInt8) (t : TypeId) : Prop where
  wb : ∃ p, Blk w v #[.slice p (n - P.length) (n - P.length)] 147 ∧ (P.length < n → p = some ⟨g, P.length, none⟩)
  buf : Blk w g (put (zeroA n) 0 P) t
  le : P.length ≤ n
theorem WB.fr {S : Nat → Prop} {w w' : World} {v g n : Nat} {P : List UInt8} {t : TypeId} (h : WB w v g n P t) (f : Fr S w w') (hv : ¬ S v) (hg : ¬ S g) : WB w' v g n P t := by
  obtain ⟨p, h1, h2⟩ := h.wb
  exact ⟨⟨p, f.blk h1 hv, h2⟩, f.blk h.buf hg, h.le⟩
theorem put_more (cur : Array Value) (a b : List UInt8) (h : a.length + b.length ≤ cur.size) : put (put cur 0 a) (0 + a.length) b = put cur 0 (a ++ b) := put_put cur 0 a b (by omega)
set_option maxRecDepth 100000 in
theorem WB.u16 {w : World} {v g n : Nat} {P : List UInt8} {t : TypeId} (h : WB w v g n P t) (hvg : v ≠ g) (x : Nat) (hx : x < 65536) (hn : P.length + 2 ≤ n) :
    Calls Tryz.prog 74 #[.pointer (some ⟨v, 0, none⟩), .int .u16 x] w fun e w' => e = .returned (.tuple #[]) ∧ WB w' v g n (P ++ leB 2 x) t ∧ Fr (fun b => b = v ∨ b = g) w w' := by
  obtain ⟨p, hp, hpo⟩ := h.wb
  obtain rfl := hpo (by omega)
  have H1 := Lib.hid (lePut16_any g P.length (n - P.length) (n - P.length) x _ t w h.buf hx (by omega) (by rw [size_put _ _ _ (by rw [size_zeroA]; omega), size_zeroA]; omega))
  have c0 : w.cell? ⟨v, 0, none⟩ = some (.slice (some ⟨g, P.length, none⟩) (n - P.length) (n - P.length)) := hp.cell 0
  have HP := Lib.hid hp
  obtain ⟨m, hm⟩ : ∃ m, m = n - P.length := ⟨_, rfl⟩
  have hm2 : 2 ≤ m := by omega
  have hs1 : (2 : Int) ≤ m := by omega
  have HM := Lib.hid hm
  rw [← hm] at c0 H1 HP
  clear h hp hpo hm
  go_enter Tryz.func74, Tryz.ntmps74
  go_wp2_with fail
  refine H1.out.mono ?_
  rintro e w1 ⟨rfl, hb1, hf1⟩
  have hv1 := hf1.blk HP.out hvg
  have c1 : w1.cell? ⟨v, 0, none⟩ = some (.slice (some ⟨g, P.length, none⟩) m m) := hv1.cell 0
  have z1 : w1.frozen? ⟨v, 0, none⟩ = false := hv1.frozen 0
  have HF1 := Lib.hid hf1
  have HB1 : Hid (Blk w1 g (put (zeroA n) 0 (P ++ leB 2 x)) t) := Lib.hid (by
    have := put_more (zeroA n) P (leB 2 x) (by rw [size_zeroA]; simp; omega)
    rw [Nat.zero_add] at this
    rw [← this]; exact hb1)
  have HV1 := Lib.hid hv1
  have hl : (P ++ leB 2 x).length = P.length + 2 := by simp
  have HL := Lib.hid hl
  clear H1 hb1 hf1 hv1 hl
  by_cases hc : m = 2
  · subst hc
    go_wp2
    go_end0
    refine ⟨rfl, ⟨⟨some ⟨g, P.length, none⟩, ?_, fun hlt => ?_⟩, HB1.out.set_ne hvg.symm _, by rw [HL.out]; omega⟩, ?_⟩
    rotate_left
    · rw [HL.out] at hlt; have := HM.out; omega
    · exact (HF1.out.mono (fun _ _ h => .inr h)).setCell (fun _ => .inl rfl) _
    · rw [HL.out, show n - (P.length + 2) = 0 by have := HM.out; omega]
      exact HV1.out.set 0 _
  · have hcp : ¬ m = 2 := hc
    go_wp2
    go_end0
    refine ⟨rfl, ⟨⟨some ⟨g, P.length + 2, none⟩, ?_, fun hlt => by rw [HL.out]⟩, HB1.out.set_ne hvg.symm _, by rw [HL.out]; omega⟩, ?_⟩
    rotate_left
    · exact (HF1.out.mono (fun _ _ h => .inr h)).setCell (fun _ => .inl rfl) _
    · rw [HL.out, show n - (P.length + 2) = m - 2 by have := HM.out; omega]
      exact HV1.out.set 0 _
set_option maxRecDepth 100000 in
theorem WB.u32 {w : World} {v g n : Nat} {P : List UInt8} {t : TypeId} (h : WB w v g n P t) (hvg : v ≠ g) (x : Nat) (hx : x < 4294967296) (hn : P.length + 4 ≤ n) :
    Calls Tryz.prog 76 #[.pointer (some ⟨v, 0, none⟩), .int .u32 x] w fun e w' => e = .returned (.tuple #[]) ∧ WB w' v g n (P ++ leB 4 x) t ∧ Fr (fun b => b = v ∨ b = g) w w' := by
  obtain ⟨p, hp, hpo⟩ := h.wb
  obtain rfl := hpo (by omega)
  have H1 := Lib.hid (lePut32_any g P.length (n - P.length) (n - P.length) x _ t w h.buf hx (by omega) (Nat.le_refl _) (by rw [size_put _ _ _ (by rw [size_zeroA]; omega), size_zeroA]; omega))
  have c0 : w.cell? ⟨v, 0, none⟩ = some (.slice (some ⟨g, P.length, none⟩) (n - P.length) (n - P.length)) := hp.cell 0
  have HP := Lib.hid hp
  obtain ⟨m, hm⟩ : ∃ m, m = n - P.length := ⟨_, rfl⟩
  have hm2 : 4 ≤ m := by omega
  have hs1 : (4 : Int) ≤ m := by omega
  have HM := Lib.hid hm
  rw [← hm] at c0 H1 HP
  clear h hp hpo hm
  go_enter Tryz.func76, Tryz.ntmps76
  go_wp2_with fail
  refine H1.out.mono ?_
  rintro e w1 ⟨rfl, hb1, hf1⟩
  have hv1 := hf1.blk HP.out hvg
  have c1 : w1.cell? ⟨v, 0, none⟩ = some (.slice (some ⟨g, P.length, none⟩) m m) := hv1.cell 0
  have z1 : w1.frozen? ⟨v, 0, none⟩ = false := hv1.frozen 0
  have HF1 := Lib.hid hf1
  have HB1 : Hid (Blk w1 g (put (zeroA n) 0 (P ++ leB 4 x)) t) := Lib.hid (by
    have := put_more (zeroA n) P (leB 4 x) (by rw [size_zeroA]; simp; omega)
    rw [Nat.zero_add] at this
    rw [← this]; exact hb1)
  have HV1 := Lib.hid hv1
  have hl : (P ++ leB 4 x).length = P.length + 4 := by simp
  have HL := Lib.hid hl
  clear H1 hb1 hf1 hv1 hl
  by_cases hc : m = 4
  · subst hc
    go_wp2
    go_end0
    refine ⟨rfl, ⟨⟨some ⟨g, P.length, none⟩, ?_, fun hlt => ?_⟩, HB1.out.set_ne hvg.symm _, by rw [HL.out]; omega⟩, ?_⟩
    rotate_left
    · rw [HL.out] at hlt; have := HM.out; omega
    · exact (HF1.out.mono (fun _ _ h => .inr h)).setCell (fun _ => .inl rfl) _
    · rw [HL.out, show n - (P.length + 4) = 0 by have := HM.out; omega]
      exact HV1.out.set 0 _
  · have hcp : ¬ m = 4 := hc
    go_wp2
    go_end0
    refine ⟨rfl, ⟨⟨some ⟨g, P.length + 4, none⟩, ?_, fun hlt => by rw [HL.out]⟩, HB1.out.set_ne hvg.symm _, by rw [HL.out]; omega⟩, ?_⟩
    rotate_left
    · exact (HF1.out.mono (fun _ _ h => .inr h)).setCell (fun _ => .inl rfl) _
    · rw [HL.out, show n - (P.length + 4) = m - 4 by have := HM.out; omega]
      exact HV1.out.set 0 _
/-- Zeros laid over zeros. -/
theorem put_zeros (n k : Nat) (P : List UInt8) (h : P.length + k ≤ n) : put (zeroA n) 0 (P ++ List.replicate k 0) = put (zeroA n) 0 P := by
  apply Array.ext_getElem?
  intro i
  rw [put_get _ _ _ (by rw [size_zeroA]; simp; omega), put_get _ _ _ (by rw [size_zeroA]; omega)]
  simp only [List.length_append, List.length_replicate, Nat.zero_add, Nat.zero_le, true_and, Nat.sub_zero]
  by_cases h1 : i < P.length
  · rw [if_pos (by omega), if_pos h1, u8s_append, List.getElem?_append_left (by simpa using h1)]
  · by_cases h2 : i < P.length + k
    · have e : (u8s (List.replicate k 0))[i - (u8s P).length]? = some (.int .u8 0) := by
        have hlt : i - (u8s P).length < k := by rw [length_u8s]; omega
        simp only [u8s, List.map_replicate, List.getElem?_replicate]
        rw [if_pos (by simpa [u8s] using hlt)]
        rfl
      rw [if_pos h2, if_neg h1, u8s_append, List.getElem?_append_right (by rw [length_u8s]; omega), get_zeroA _ _ (by omega), e]
    · rw [if_neg h2, if_neg h1]
theorem WB.skip {w : World} {v g n : Nat} {P : List UInt8} {t : TypeId} (h : WB w v g n P t) (hvg : v ≠ g) (k m : Nat) (hn : n - (P.length + k) = m) (hk : P.length + k < n) :
    WB (w.setCell ⟨v, 0, none⟩ (.slice (some ⟨g, P.length + k, none⟩) m m)) v g n (P ++ List.replicate k 0) t := by
  obtain ⟨p, hp, hpo⟩ := h.wb
  subst hn
  refine ⟨⟨_, by simpa using hp.set 0 _, fun _ => by simp⟩, ?_, by simp; omega⟩
  rw [put_zeros n k P (by omega)]
  exact h.buf.set_ne hvg.symm _
theorem WB.at {w : World} {v g n : Nat} {P : List UInt8} {t : TypeId} (h : WB w v g n P t) (m k : Nat) (hm : n - P.length = m) (hk : P.length = k) (ho : k < n) : w.cell? ⟨v, 0, none⟩ = some (.slice (some ⟨g, k, none⟩) m m) ∧ w.frozen? ⟨v, 0, none⟩ = false := by
  obtain ⟨p, hp, hpo⟩ := h.wb
  subst hk
  obtain rfl := hpo ho
  subst hm
  exact ⟨hp.cell 0, hp.frozen 0⟩
/-- The whole row is laid. -/
theorem WB.full {w : World} {v g n : Nat} {P : List UInt8} {t : TypeId} (h : WB w v g n P t) (hn : P.length = n) : w.rangeAt g 0 (u8s P) := by
  refine h.buf.range ?_
  have := put_range (zeroA n) 0 P (by rw [size_zeroA]; omega)
  rw [length_u8s]; exact this
end Go.Proofs.Zip
namespace Go.Proofs.Zip
open Go Go.RowKit
/-- 'copy(dst, nil)'. -/
theorem wpList_copy_nil {P : Program} {ops : Array Oper} {rest : List Oper} {o : Oper} {a : Act} {w : World} {Q : Exit → Act → World → Prop} (hgd : o.guard = none) (d s : Operand) (dT sT : TypeId)
    (ho : o.op = .call { callee := .builtin .copy, args := #[d, s], argTypes := #[dT, sT] }) {elem : TypeId} (hu : P.underlying dT = some (.slice elem)) (hsz : (P.info? elem).map (·.size) = some 1)
    (ad : Addr) (dLen dCap : Nat) (hd : a.eval d = .slice (some ad) dLen dCap) (hs : a.eval s = .slice none 0 0)
    (h : wpList P ops Q rest (a.put o.dst (.int .i64 0)) w) : wpList P ops Q (o :: rest) a w := by
  refine wpList_plain hgd fun K hK => ?_
  have hrun := run_copy_nil (P := P) w dT sT o.type elem ad dLen dCap hu (by rw [hsz]; rfl)
  have h1 := hK _ _ h
  unfold Oper.wp
  simp [execOp, ho, resolve, invoke, builtin, hd, hs, hrun, Result.andThen]
  exact h1
theorem avail_any (O : Wr) (n : Nat) (w : World) (h : Blk w O.bw (bwCells O n) 240) (hn : n ≤ 4096) : Calls Tryz.prog 198 #[.pointer (some ⟨O.bw, 0, none⟩)] w fun e w' => e = .returned (.int .i64 ((4096 - n : Nat) : Int)) ∧ w' = w.drew := by
  have c1 : w.cell? ⟨O.bw, 1, none⟩ = some (.slice (some ⟨O.bb, 0, none⟩) 4096 4096) := h.cell 1
  have c2 : w.cell? ⟨O.bw, 2, none⟩ = some (.int .i64 n) := h.cell 2
  have e : ((4096 : Int) - (n : Int)) = ((4096 - n : Nat) : Int) := by omega
  go_enter Tryz.func198, Tryz.ntmps198
  go_wp2
  go_region
  go_wp2
  go_ret
  exact ⟨by first | rfl | (rw [← e]; rfl), rfl⟩
theorem buffered_any (O : Wr) (n : Nat) (w : World) (h : Blk w O.bw (bwCells O n) 240) : Calls Tryz.prog 202 #[.pointer (some ⟨O.bw, 0, none⟩)] w fun e w' => e = .returned (.int .i64 n) ∧ w' = w := by
  have c2 : w.cell? ⟨O.bw, 2, none⟩ = some (.int .i64 n) := h.cell 2
  go_enter Tryz.func202, Tryz.ntmps202
  go_wp2
  go_ret
  exact ⟨rfl, rfl⟩
/-- The bytes laid behind what the buffer holds. -/
theorem Wbf.more {w w' : World} {O : Wr} {L1 L2 : List UInt8} {cur : Array Value} {ob : Option Nat} (h : Wbf w O L1 L2 cur ob) (hO : O.Ok) (M : List UInt8) (hM : L2.length + M.length ≤ 4096) (hb : Blk w' O.bb (put (put cur 0 L2) L2.length M) 5) (hf : Fr (· = O.bb) w w') :
    Wbf (w'.setCell ⟨O.bw, 2, none⟩ (.int .i64 ((L2.length : Int) + (M.length : Int)))) O L1 (L2 ++ M) cur ob ∧ Fr (O.turns ob) w (w'.setCell ⟨O.bw, 2, none⟩ (.int .i64 ((L2.length : Int) + (M.length : Int)))) := by
  have hw : Blk w' O.bw (bwCells O L2.length) 240 := hf.blk h.bw hO.d4
  have e : ((L2.length : Int) + (M.length : Int)) = ((L2 ++ M).length : Int) := by simp
  rw [e]
  refine ⟨⟨h.bld.fr (hf.trans2 ((Fr.refl (· = O.bw) w').setCell (fun _ => rfl) _) (U := fun b => b = O.bb ∨ b = O.bw) (fun _ h => .inl h) (fun _ h => .inr h)) (fun e => e.elim hO.d2 hO.d1) (fun x e => e.elim (fun e => by subst e; exact h.o2.symm) (fun e => by subst e; exact h.o1.symm)), hw.set 2 _, ?_, h.cur, by simp; omega, h.o1, h.o2⟩, ?_⟩
  · rw [put_app cur L2 M (by rw [h.cur]; omega)] at hb
    exact hb.set_ne hO.d4.symm _
  · exact (hf.mono (fun _ _ h => .inr (.inr (.inl h)))).setCell (fun _ => .inr (.inl rfl)) _
/-- A great text goes into the builder as it is. -/
theorem Wbf.direct {w w2 : World} {O : Wr} {L1 X : List UInt8} {cur : Array Value} {ob ob2 : Option Nat} (h : Wbf w O L1 [] cur ob) (hO : O.Ok) (h2 : Bld w2 O.base O.sb (L1 ++ X) ob2) (hn : obNext ob ob2 w.heap.size) (hf : Fr (fun x => x = O.sb ∨ some x = ob) w w2) :
    Wbf (w2.setCell ⟨O.bw, 0, none⟩ .nilIface) O (L1 ++ X) [] cur ob2 ∧ Fr (O.turns ob) w (w2.setCell ⟨O.bw, 0, none⟩ .nilIface) := by
  have hbw : Blk w2 O.bw (bwCells O 0) 240 := hf.blk h.bw (fun e => e.elim (fun e => hO.d1 e.symm) (fun e => h.o1 e.symm))
  have hbb := hf.blk h.bb (fun e => e.elim (fun e => hO.d2 e.symm) (fun e => h.o2 e.symm))
  refine ⟨⟨h2.fr ((Fr.refl (· = O.bw) w2).setCell (fun _ => rfl) _) hO.d1 (fun x hx => by rw [hx]; exact (hn.ne h.o1 h.bw.lt).symm), hbw.set 0 _, hbb.set_ne hO.d4.symm _, h.cur, by simp, hn.ne h.o1 h.bw.lt, hn.ne h.o2 h.bb.lt⟩, ?_⟩
  exact (hf.mono (fun i _ hh => hh.elim .inl (fun e => .inr (.inr (.inr e))))).setCell (fun _ => .inr (.inl rfl)) _
theorem src_range {S : Nat → Prop} {w wr : World} {g o oo j : Nat} {M : List UInt8} (hf : Fr S w wr) (hM : w.rangeAt g o (u8s M)) (hgl : g < w.heap.size) (hS : ¬ S g) (hoo : j < M.length → oo = o + j) : wr.rangeAt g oo (u8s (M.drop j)) := by
  intro k v hk
  have hk' : j + k < M.length := by have := (List.getElem?_eq_some_iff.1 hk).1; simp at this; omega
  rw [hoo (by omega), hf.cell hgl hS, Nat.add_assoc]
  refine hM (j + k) v ?_
  simpa [u8s, List.getElem?_map, List.getElem?_drop] using hk
set_option maxRecDepth 100000 in
set_option maxHeartbeats 4000000 in
theorem bwWrite_any (O : Wr) (hO : O.Ok) (g o n cap : Nat) (L M : List UInt8) (ob : Option Nat) (w : World) (h : Out w O L ob) (hn : M.length = n) (hM : w.rangeAt g o (u8s M)) (hgl : g < w.heap.size) (hg : ¬ O.turns ob g) (hcap : M.length ≤ cap) (hlen : L.length + M.length ≤ 140737488355328) (hbase : O.base ≤ w.heap.size) :
    Calls Tryz.prog 200 #[.pointer (some ⟨O.bw, 0, none⟩), .slice (some ⟨g, o, none⟩) n cap] w fun e w' => e = .returned (.tuple #[.int .i64 n, .nilIface]) ∧ ∃ ob', Hid (Out w' O (L ++ M) ob' ∧ obNext ob ob' w.heap.size ∧ Fr (O.turns ob) w w') := by
  subst hn
  go_enter Tryz.func200, Tryz.ntmps200
  have HH := Lib.hid h
  have HM := Lib.hid hM
  have HG := Lib.hid hg
  have hcl : O.cw < w.heap.size ∨ True := .inr trivial
  clear h hM hg hcl
  go_wp2_with fail
  go_loopw [1, 4] (fun t1 t4 wr => ∃ (j oo : Nat) (L1 L2 : List UInt8) (cur : Array Value) (ob' : Option Nat), t1 = .slice (some ⟨g, oo, none⟩) (M.length - j) (cap - j) ∧ t4 = .int .i64 j ∧ j ≤ M.length ∧ Hid (j < M.length → oo = o + j) ∧ Hid (L ++ M.take j = L1 ++ L2) ∧ Hid (Wbf wr O L1 L2 cur ob') ∧ Hid (obNext ob ob' w.heap.size) ∧ Hid (Fr (O.turns ob) w wr)) (fun t1 _ wr => leftW O t1 wr)
  case atStart =>
    obtain ⟨L1, L2, cur, e, hb⟩ := HH.out
    exact ⟨0, o, L1, L2, cur, ob, rfl, rfl, Nat.zero_le _, Lib.hid (fun _ => rfl), Lib.hid (by rw [List.take_zero, List.append_nil]; exact e), Lib.hid hb, Lib.hid (.inl rfl), Lib.hid (Fr.refl _ _)⟩
  case round =>
    obtain ⟨j, oo, L1, L2, cur, ob', rfl, rfl, hj, hoo, hL, hB, hN, hF⟩ := hrel
    obtain ⟨m, hm⟩ : ∃ m, m = M.length - j := ⟨_, rfl⟩
    obtain ⟨cp, hcp⟩ : ∃ cp, cp = cap - j := ⟨_, rfl⟩
    have hl2 := hB.out.len
    have hmc : m ≤ cp := by omega
    rw [← hm, ← hcp]
    have HMm := Lib.hid hm
    have HCp := Lib.hid hcp
    clear hm hcp
    have HA := Lib.hid (avail_any O L2.length wr hB.out.bw hl2)
    have c0 : wr.cell? ⟨O.bw, 0, none⟩ = some .nilIface := hB.out.bw.cell 0
    have c1 : wr.cell? ⟨O.bw, 1, none⟩ = some (.slice (some ⟨O.bb, 0, none⟩) 4096 4096) := hB.out.bw.cell 1
    have c2 : wr.cell? ⟨O.bw, 2, none⟩ = some (.int .i64 L2.length) := hB.out.bw.cell 2
    by_cases hfit : m ≤ 4096 - L2.length
    · have hgt : ¬ (((4096 - L2.length : Nat) : Int) < (m : Int)) := by omega
      go_wp2_with (go_at_call 198; refine HA.out.mono ?_; rintro e w1 ⟨rfl, rfl⟩)
      refine wp_still_tail 10 (by kernel_rfl) (by kernel_rfl) ?_
      simp only [List.take_succ_cons, List.take_zero, List.drop_succ_cons, List.drop_zero]
      repeat still_step
      refine wpStill_step (fun K hK => ?_)
      go_simp
      have hdl : (M.drop j).length = m := by rw [List.length_drop, HMm.out]
      have hsrc : wr.drew.drew.rangeAt g oo (u8s (M.drop j)) := src_range (S := O.turns ob) hF.out.drew.drew HM.out hgl HG.out hoo.out
      have hbb : Blk wr.drew.drew O.bb (put cur 0 L2) 5 := hB.out.bb
      have hsz : (put cur 0 L2).size = 4096 := by rw [size_put _ _ _ (by rw [hB.out.cur]; omega)]; exact hB.out.cur
      rw [if_pos (show ((L2.length : Int) ≤ 4096) by omega)]
      by_cases h4 : 4096 = L2.length
      · rw [if_pos h4]
        have H4 := Lib.hid h4
        clear h4
        refine ⟨rfl, hK _ ?_⟩
        clear hK K
        repeat still_step
        refine wpStill_nil ?_
        refine wpList_copy_bytes rfl _ _ 76 76 rfl Tryz.underlying76 (by kernel_rfl) O.bb 0 (4096 - L2.length) (4096 - L2.length) g oo m cp (M.drop j) rfl rfl (put cur 0 L2) 5 hbb hsrc (by rw [hdl]; omega) (by rw [hdl]; omega) ?_
        intro w' hb' hf'
        have hnil : M.drop j = [] := List.eq_nil_of_length_eq_zero (by have := H4.out; rw [hdl]; omega)
        have hb2 : Blk w' O.bb (put (put cur 0 L2) L2.length (M.drop j)) 5 := by rw [hnil, put_nil] at hb' ⊢; exact hb'
        have hf2 : Fr (· = O.bb) wr w' := (Fr.refl (· = O.bb) wr).drew.drew.trans hf' (fun _ _ h => h)
        obtain ⟨g1, g2⟩ := hB.out.more hO (M.drop j) (by rw [hdl]; omega) hb2 hf2
        rw [hdl] at g1 g2
        have hbw : Blk w' O.bw (bwCells O L2.length) 240 := hf2.blk hB.out.bw hO.d4
        have d2 : w'.cell? ⟨O.bw, 2, none⟩ = some (.int .i64 L2.length) := hbw.cell 2
        have f2 : w'.frozen? ⟨O.bw, 2, none⟩ = false := hbw.frozen 2
        have HTL : Hid (L ++ M = L1 ++ (L2 ++ M.drop j)) := Lib.hid (by rw [← List.append_assoc, ← hL.out, List.append_assoc, List.take_append_drop])
        have FIN : Hid (Out (w'.setCell ⟨O.bw, 2, none⟩ (.int .i64 ((L2.length : Int) + (m : Int)))) O (L ++ M) ob' ∧ obNext ob ob' w.heap.size ∧ Fr (O.turns ob) w (w'.setCell ⟨O.bw, 2, none⟩ (.int .i64 ((L2.length : Int) + (m : Int))))) := Lib.hid ⟨⟨L1, _, cur, HTL.out, g1⟩, hN.out, hF.out.turns g2 hN.out⟩
        have HJM : Hid (j + m = M.length) := Lib.hid (by have := HMm.out; omega)
        have HDL := Lib.hid hdl
        clear g1 g2 hb2 hf2 hf' hbw hsrc hbb hsz HA HH HM HG hB hF hL hdl
        rw [HDL.out]
        go_wp2
        go_ret2
        exact ⟨by rw [← HJM.out]; first | rfl | (simp; done) | (congr 3; simp), ob', FIN⟩
      · rw [if_neg h4]
        have H4 := Lib.hid h4
        clear h4
        refine ⟨rfl, hK _ ?_⟩
        clear hK K
        repeat still_step
        refine wpStill_nil ?_
        refine wpList_copy_bytes rfl _ _ 76 76 rfl Tryz.underlying76 (by kernel_rfl) O.bb L2.length (4096 - L2.length) (4096 - L2.length) g oo m cp (M.drop j) rfl rfl (put cur 0 L2) 5 hbb hsrc (by rw [hdl]; omega) (by rw [hdl]; omega) ?_
        intro w' hb2 hf'
        have hf2 : Fr (· = O.bb) wr w' := (Fr.refl (· = O.bb) wr).drew.drew.trans hf' (fun _ _ h => h)
        obtain ⟨g1, g2⟩ := hB.out.more hO (M.drop j) (by rw [hdl]; omega) hb2 hf2
        rw [hdl] at g1 g2
        have hbw : Blk w' O.bw (bwCells O L2.length) 240 := hf2.blk hB.out.bw hO.d4
        have d2 : w'.cell? ⟨O.bw, 2, none⟩ = some (.int .i64 L2.length) := hbw.cell 2
        have f2 : w'.frozen? ⟨O.bw, 2, none⟩ = false := hbw.frozen 2
        have HTL : Hid (L ++ M = L1 ++ (L2 ++ M.drop j)) := Lib.hid (by rw [← List.append_assoc, ← hL.out, List.append_assoc, List.take_append_drop])
        have FIN : Hid (Out (w'.setCell ⟨O.bw, 2, none⟩ (.int .i64 ((L2.length : Int) + (m : Int)))) O (L ++ M) ob' ∧ obNext ob ob' w.heap.size ∧ Fr (O.turns ob) w (w'.setCell ⟨O.bw, 2, none⟩ (.int .i64 ((L2.length : Int) + (m : Int))))) := Lib.hid ⟨⟨L1, _, cur, HTL.out, g1⟩, hN.out, hF.out.turns g2 hN.out⟩
        have HJM : Hid (j + m = M.length) := Lib.hid (by have := HMm.out; omega)
        have HDL := Lib.hid hdl
        clear g1 g2 hb2 hf2 hf' hbw hsrc hbb hsz HA HH HM HG hB hF hL hdl
        rw [HDL.out]
        go_wp2
        go_ret2
        exact ⟨by rw [← HJM.out]; first | rfl | (simp; done) | (congr 3; simp), ob', FIN⟩
    · have hgt : (((4096 - L2.length : Nat) : Int) < (m : Int)) := by omega
      have hdl : (M.drop j).length = m := by rw [List.length_drop, HMm.out]
      have hll : L1.length + L2.length = L.length + j := by
        have := congrArg List.length hL.out
        simp only [List.length_append, List.length_take] at this
        omega
      by_cases h0 : L2 = []
      · subst h0
        have hgw : g < wr.drew.heap.size := Nat.lt_of_lt_of_le hgl hF.out.size
        have hwr := bldWrite_any O.base O.sb g oo cp L1 (M.drop j) ob' wr.drew hB.out.bld (src_range (S := O.turns ob) hF.out.drew HM.out hgl HG.out hoo.out) hgw (fun e => HG.out (.inl e)) (by have := HMm.out; rw [hdl]; simp at hll; omega) (Nat.le_trans hbase hF.out.size)
        rw [hdl] at hwr
        have HWR := Lib.hid hwr
        have HBF := Lib.hid (buffered_any O 0 wr.drew hB.out.bw)
        have c3 : wr.cell? ⟨O.bw, 3, none⟩ = some (sbv O) := hB.out.bw.cell 3
        have HDL := Lib.hid hdl
        have HLL := Lib.hid hll
        clear hwr hdl hll
        go_wp2_with (first
          | (go_at_call 198; refine HA.out.mono ?_; rintro e w1 ⟨rfl, rfl⟩)
          | (go_at_call 202; refine HBF.out.mono ?_; rintro e w1 ⟨rfl, rfl⟩))
        refine HWR.out.mono ?_
        rintro e w2 ⟨rfl, ob2, h2, hn2, hf2⟩
        have hbw : Blk w2 O.bw (bwCells O 0) 240 := hf2.blk (w := wr.drew) hB.out.bw (by
          rintro (e | e)
          · exact hO.d1 e.symm
          · exact hB.out.o1 e.symm)
        have d0 : w2.cell? ⟨O.bw, 0, none⟩ = some .nilIface := hbw.cell 0
        have f0 : w2.frozen? ⟨O.bw, 0, none⟩ = false := hbw.frozen 0
        obtain ⟨g1, g2⟩ := hB.out.direct hO h2 hn2 (Fr.trans2 (S := fun _ => False) (Fr.refl _ wr).drew hf2 (fun _ h => h.elim) (fun _ h => h))
        have HG1 := Lib.hid g1
        have HG2 := Lib.hid g2
        have HN2 : Hid (obNext ob ob2 w.heap.size) := Lib.hid (hN.out.trans hn2 hF.out.size)
        have HML := Lib.hid (leftW_buf hB.out (.slice (some ⟨g, oo, none⟩) m cp))
        have hjb : j + m ≤ 140737488355328 := by have := HMm.out; omega
        have HALL : Hid (L ++ M.take (j + m) = (L1 ++ M.drop j) ++ []) := Lib.hid (by
          have := HMm.out
          have h5 := hL.out
          rw [List.append_nil] at h5 ⊢
          rw [← h5, List.append_assoc, List.take_append_drop, List.take_of_length_le (by omega)])
        clear hbw h2 hn2 hf2 g1 g2 HWR HBF HA c0 c1 c2 c3 hB hL
        by_cases hcm : cp = m
        · have HCM := Lib.hid hcm
          go_wp2
          refine ⟨⟨j + m, oo, L1 ++ M.drop j, [], cur, ob2, ?_, by go_num, by have := HMm.out; omega, Lib.hid (fun h => by have := HMm.out; omega), HALL, HG1, HN2, Lib.hid (hF.out.turns HG2.out hN.out)⟩, ?_⟩
          · have := HMm.out
            have := HCp.out
            have := HCM.out
            rw [show M.length - (j + m) = 0 by omega, show cap - (j + m) = 0 by omega]
          · rw [HML.out, leftW_buf HG1.out]
            simp only [lenOfV, if_true]
            omega
        · have HCM := Lib.hid hcm
          go_wp2
          refine ⟨⟨j + m, oo + m, L1 ++ M.drop j, [], cur, ob2, ?_, by go_num, by have := HMm.out; omega, Lib.hid (fun h => by have := HMm.out; omega), HALL, HG1, HN2, Lib.hid (hF.out.turns HG2.out hN.out)⟩, ?_⟩
          · have := HMm.out
            have := HCp.out
            have := HCM.out
            rw [show M.length - (j + m) = 0 by omega, show cap - (j + m) = cp - m by omega]
          · rw [HML.out, leftW_buf HG1.out]
            simp only [lenOfV, if_true]
            omega
      · obtain ⟨r, hr⟩ : ∃ r, r = 4096 - L2.length := ⟨_, rfl⟩
        have hlp : 0 < L2.length := by
          rcases Nat.eq_zero_or_pos L2.length with h | h
          · exact absurd (List.eq_nil_of_length_eq_zero h) h0
          · exact h
        have H0 := Lib.hid h0
        clear h0
        have hne0 : ((L2.length : Int) == 0) = false := by rw [beq_eq_false_iff_ne]; omega
        have HBF := Lib.hid (buffered_any O L2.length wr.drew hB.out.bw)
        have hrl : r ≤ m := by omega
        have hlr : (List.take r (M.drop j)).length = r := by rw [List.length_take, hdl]; omega
        have hsrc : wr.drew.drew.rangeAt g oo (u8s (List.take r (M.drop j))) := by
          have h1 : wr.drew.drew.rangeAt g oo (u8s (M.drop j)) := src_range (S := O.turns ob) hF.out.drew.drew HM.out hgl HG.out hoo.out
          refine rangeAt_part (n := 0) (o := oo) h1 ?_
          simp [u8s, List.map_take]
        have hbb : Blk wr.drew.drew O.bb (put cur 0 L2) 5 := hB.out.bb
        have hsz : (put cur 0 L2).size = 4096 := by rw [size_put _ _ _ (by rw [hB.out.cur]; omega)]; exact hB.out.cur
        have HR := Lib.hid hr
        clear hr
        go_upto_region 5 with (first
          | (go_at_call 198; refine HA.out.mono ?_; rintro e w1 ⟨rfl, rfl⟩)
          | (go_at_call 202; refine HBF.out.mono ?_; rintro e w1 ⟨rfl, rfl⟩))
        refine wp_still_tail 10 (by kernel_rfl) (by kernel_rfl) ?_
        simp only [List.take_succ_cons, List.take_zero, List.drop_succ_cons, List.drop_zero]
        repeat still_step
        refine wpStill_step (fun K hK => ?_)
        go_simp
        rw [if_pos (show ((L2.length : Int) ≤ 4096) by omega)]
        by_cases h4 : 4096 = L2.length
        · rw [if_pos h4]
          have H4 := Lib.hid h4
          clear h4
          refine ⟨rfl, hK _ ?_⟩
          clear hK K
          repeat still_step
          refine wpStill_nil ?_
          refine wpList_copy_bytes rfl _ _ 76 76 rfl Tryz.underlying76 (by kernel_rfl) O.bb 0 (4096 - L2.length) (4096 - L2.length) g oo m cp (List.take r (M.drop j)) rfl rfl (put cur 0 L2) 5 hbb hsrc (by rw [hlr]; have := HR.out; omega) (by rw [hlr]; have := HR.out; omega) ?_
          intro w' hb' hf'
          have hnil : List.take r (M.drop j) = [] := List.eq_nil_of_length_eq_zero (by have := H4.out; have := HR.out; rw [hlr]; omega)
          have hb2 : Blk w' O.bb (put (put cur 0 L2) L2.length (List.take r (M.drop j))) 5 := by rw [hnil, put_nil] at hb' ⊢; exact hb'
          have hf2 : Fr (· = O.bb) wr w' := (Fr.refl (· = O.bb) wr).drew.drew.trans hf' (fun _ _ h => h)
          obtain ⟨g1, g2⟩ := hB.out.more hO (List.take r (M.drop j)) (by rw [hlr]; have := HR.out; omega) hb2 hf2
          rw [hlr] at g1 g2
          have hbw : Blk w' O.bw (bwCells O L2.length) 240 := hf2.blk hB.out.bw hO.d4
          have d2 : w'.cell? ⟨O.bw, 2, none⟩ = some (.int .i64 L2.length) := hbw.cell 2
          have f2 : w'.frozen? ⟨O.bw, 2, none⟩ = false := hbw.frozen 2
          have HFL := Lib.hid (flush_any O hO L1 (L2 ++ List.take r (M.drop j)) cur ob' _ g1 (by rw [List.length_append, hlr]; have := HMm.out; omega) (Nat.le_trans hbase (hF.out.turns g2 hN.out).size))
          have HF6 := Lib.hid (hF.out.turns g2 hN.out)
          have HS6 : Hid (wr.heap.size ≤ (w'.setCell ⟨O.bw, 2, none⟩ (.int .i64 ((L2.length : Int) + (r : Int)))).heap.size) := Lib.hid g2.size
          have HG2 := Lib.hid g2
          have HML : Hid (leftW O (.slice (some ⟨g, oo, none⟩) m cp) wr = 2 * m + 1) := Lib.hid (by rw [leftW_buf hB.out, if_neg H0.out]; rfl)
          have hjb : j + r ≤ 140737488355328 := by have := HMm.out; omega
          have hcr : ¬ cp = r := by have := HR.out; omega
          have HALL : Hid (L ++ M.take (j + r) = (L1 ++ (L2 ++ List.take r (M.drop j))) ++ []) := Lib.hid (by
            rw [List.append_nil, ← List.append_assoc L1, ← hL.out, List.append_assoc, List.take_add])
          have HLR := Lib.hid hlr
          clear g1 g2 hb2 hf2 hf' hbw hsrc hbb hsz HA HBF HH hB hL hdl hlr c0 c1 c2
          rw [HLR.out]
          go_wp2_with fail
          refine HFL.out.mono ?_
          rintro e w7 ⟨rfl, ob2, cur2, h7, hn7, hf7⟩
          have HG1 := Lib.hid h7
          have HN2 : Hid (obNext ob ob2 w.heap.size) := Lib.hid (hN.out.trans hn7 (Nat.le_trans hF.out.size HS6.out))
          have HF7 : Hid (Fr (O.turns ob) w w7) := Lib.hid (HF6.out.turns hf7 hN.out)
          clear h7 hn7 hf7 HFL HF6 HS6 HG2 hgt hll
          go_wp2
          refine ⟨⟨j + r, oo + r, L1 ++ (L2 ++ List.take r (M.drop j)), [], cur2, ob2, ?_, by go_num, by have := HMm.out; omega, Lib.hid (fun _ => by have := hoo.out (by have := HMm.out; omega); omega), HALL, HG1, HN2, HF7⟩, ?_⟩
          · have := HMm.out
            have := HCp.out
            rw [show M.length - (j + r) = m - r by omega, show cap - (j + r) = cp - r by omega]
          · rw [HML.out, leftW_buf HG1.out]
            simp only [lenOfV, if_true]
            omega
        · rw [if_neg h4]
          have H4 := Lib.hid h4
          clear h4
          refine ⟨rfl, hK _ ?_⟩
          clear hK K
          repeat still_step
          refine wpStill_nil ?_
          refine wpList_copy_bytes rfl _ _ 76 76 rfl Tryz.underlying76 (by kernel_rfl) O.bb L2.length (4096 - L2.length) (4096 - L2.length) g oo m cp (List.take r (M.drop j)) rfl rfl (put cur 0 L2) 5 hbb hsrc (by rw [hlr]; have := HR.out; omega) (by rw [hlr]; have := HR.out; omega) ?_
          intro w' hb2 hf'
          have hf2 : Fr (· = O.bb) wr w' := (Fr.refl (· = O.bb) wr).drew.drew.trans hf' (fun _ _ h => h)
          obtain ⟨g1, g2⟩ := hB.out.more hO (List.take r (M.drop j)) (by rw [hlr]; have := HR.out; omega) hb2 hf2
          rw [hlr] at g1 g2
          have hbw : Blk w' O.bw (bwCells O L2.length) 240 := hf2.blk hB.out.bw hO.d4
          have d2 : w'.cell? ⟨O.bw, 2, none⟩ = some (.int .i64 L2.length) := hbw.cell 2
          have f2 : w'.frozen? ⟨O.bw, 2, none⟩ = false := hbw.frozen 2
          have HFL := Lib.hid (flush_any O hO L1 (L2 ++ List.take r (M.drop j)) cur ob' _ g1 (by rw [List.length_append, hlr]; have := HMm.out; omega) (Nat.le_trans hbase (hF.out.turns g2 hN.out).size))
          have HF6 := Lib.hid (hF.out.turns g2 hN.out)
          have HS6 : Hid (wr.heap.size ≤ (w'.setCell ⟨O.bw, 2, none⟩ (.int .i64 ((L2.length : Int) + (r : Int)))).heap.size) := Lib.hid g2.size
          have HG2 := Lib.hid g2
          have HML : Hid (leftW O (.slice (some ⟨g, oo, none⟩) m cp) wr = 2 * m + 1) := Lib.hid (by rw [leftW_buf hB.out, if_neg H0.out]; rfl)
          have hjb : j + r ≤ 140737488355328 := by have := HMm.out; omega
          have hcr : ¬ cp = r := by have := HR.out; omega
          have HALL : Hid (L ++ M.take (j + r) = (L1 ++ (L2 ++ List.take r (M.drop j))) ++ []) := Lib.hid (by
            rw [List.append_nil, ← List.append_assoc L1, ← hL.out, List.append_assoc, List.take_add])
          have HLR := Lib.hid hlr
          clear g1 g2 hb2 hf2 hf' hbw hsrc hbb hsz HA HBF HH hB hL hdl hlr c0 c1 c2
          rw [HLR.out]
          go_wp2_with fail
          refine HFL.out.mono ?_
          rintro e w7 ⟨rfl, ob2, cur2, h7, hn7, hf7⟩
          have HG1 := Lib.hid h7
          have HN2 : Hid (obNext ob ob2 w.heap.size) := Lib.hid (hN.out.trans hn7 (Nat.le_trans hF.out.size HS6.out))
          have HF7 : Hid (Fr (O.turns ob) w w7) := Lib.hid (HF6.out.turns hf7 hN.out)
          clear h7 hn7 hf7 HFL HF6 HS6 HG2 hgt hll
          go_wp2
          refine ⟨⟨j + r, oo + r, L1 ++ (L2 ++ List.take r (M.drop j)), [], cur2, ob2, ?_, by go_num, by have := HMm.out; omega, Lib.hid (fun _ => by have := hoo.out (by have := HMm.out; omega); omega), HALL, HG1, HN2, HF7⟩, ?_⟩
          · have := HMm.out
            have := HCp.out
            rw [show M.length - (j + r) = m - r by omega, show cap - (j + r) = cp - r by omega]
          · rw [HML.out, leftW_buf HG1.out]
            simp only [lenOfV, if_true]
            omega
set_option maxRecDepth 100000 in
set_option maxHeartbeats 1000000 in
theorem bwWriteNil_any (O : Wr) (hO : O.Ok) (L : List UInt8) (ob : Option Nat) (w : World) (h : Out w O L ob) :
    Calls Tryz.prog 200 #[.pointer (some ⟨O.bw, 0, none⟩), .slice none 0 0] w fun e w' => e = .returned (.tuple #[.int .i64 0, .nilIface]) ∧ Hid (Out w' O L ob ∧ Fr (O.turns ob) w w') := by
  obtain ⟨L1, L2, cur, hL, hB⟩ := h
  go_enter Tryz.func200, Tryz.ntmps200
  go_wp2_with fail
  go_loopw [1, 4] (fun t1 t4 wr => t1 = .slice none 0 0 ∧ t4 = .int .i64 0 ∧ wr = w) (fun _ _ _ => 0)
  case atStart => exact ⟨rfl, rfl, rfl⟩
  case round =>
    obtain ⟨rfl, rfl, rfl⟩ := hrel
    have hl2 := hB.len
    have HA := Lib.hid (avail_any O L2.length wr hB.bw hl2)
    have c0 : wr.cell? ⟨O.bw, 0, none⟩ = some .nilIface := hB.bw.cell 0
    have c1 : wr.cell? ⟨O.bw, 1, none⟩ = some (.slice (some ⟨O.bb, 0, none⟩) 4096 4096) := hB.bw.cell 1
    have c2 : wr.cell? ⟨O.bw, 2, none⟩ = some (.int .i64 L2.length) := hB.bw.cell 2
    have hgt : ¬ (((4096 - L2.length : Nat) : Int) < 0) := by omega
    have HB := Lib.hid hB
    clear hB
    go_upto_region 12 with (go_at_call 198; refine HA.out.mono ?_; rintro e w1 ⟨rfl, rfl⟩)
    refine wp_still_tail 10 (by kernel_rfl) (by kernel_rfl) ?_
    simp only [List.take_succ_cons, List.take_zero, List.drop_succ_cons, List.drop_zero]
    repeat still_step
    refine wpStill_step (fun K hK => ?_)
    go_simp
    rw [if_pos (show ((L2.length : Int) ≤ 4096) by omega)]
    obtain ⟨g1, g2⟩ := HB.out.more (w' := wr.drew.drew) hO [] (by simpa using hl2) (by rw [put_nil]; exact HB.out.bb) (Fr.refl _ wr).drew.drew
    rw [List.append_nil] at g1
    have e0 : ((L2.length : Int) + (([] : List UInt8).length : Int)) = (L2.length : Int) := by simp
    rw [e0] at g1 g2
    have d2 : wr.drew.drew.cell? ⟨O.bw, 2, none⟩ = some (.int .i64 L2.length) := c2
    have f2 : wr.drew.drew.frozen? ⟨O.bw, 2, none⟩ = false := HB.out.bw.frozen 2
    have FIN : Hid (Out (wr.drew.drew.setCell ⟨O.bw, 2, none⟩ (.int .i64 L2.length)) O L ob ∧ Fr (O.turns ob) wr (wr.drew.drew.setCell ⟨O.bw, 2, none⟩ (.int .i64 L2.length))) := Lib.hid ⟨⟨L1, L2, cur, hL, g1⟩, g2⟩
    clear g1 g2 HB HA hL e0
    by_cases h4 : 4096 = L2.length
    · rw [if_pos h4]
      have H4 := Lib.hid h4
      clear h4
      refine ⟨rfl, hK _ ?_⟩
      clear hK K
      repeat still_step
      refine wpStill_nil ?_
      refine wpList_copy_nil rfl _ _ 76 76 rfl Tryz.underlying76 (by kernel_rfl) ⟨O.bb, 0, none⟩ (4096 - L2.length) (4096 - L2.length) rfl rfl ?_
      go_wp2
      go_ret2
      exact ⟨rfl, FIN⟩
    · rw [if_neg h4]
      have H4 := Lib.hid h4
      clear h4
      refine ⟨rfl, hK _ ?_⟩
      clear hK K
      repeat still_step
      refine wpStill_nil ?_
      refine wpList_copy_nil rfl _ _ 76 76 rfl Tryz.underlying76 (by kernel_rfl) ⟨O.bb, L2.length, none⟩ (4096 - L2.length) (4096 - L2.length) rfl rfl ?_
      go_wp2
      go_ret2
      exact ⟨rfl, FIN⟩
end Go.Proofs.Zip
namespace Go.Proofs.Zip
open Go Go.RowKit
/-- The world in which '[]byte(l)' is laid. -/
def bytesW (l : List UInt8) (w : World) : World := w.drew.alloc (.cells (bytesRow (B l) (grownCap w (B l).size 0 5)) 5 ((bytesRow (B l) (grownCap w (B l).size 0 5)).size, (bytesRow (B l) (grownCap w (B l).size 0 5)).size + 1))
theorem run_bytes (l : List UInt8) (w : World) : (convert 9 76 (.string (B l))).run Tryz.prog w = .ok (.slice (some ⟨w.heap.size, 0, none⟩) l.length (grownCap w l.length 0 5)) (bytesW l w) := by
  have h := run_bytes_of_string (P := Tryz.prog) w 9 76 5 (B l) Tryz.underlying9 Tryz.underlying76 Tryz.underlying5
  rw [size_B] at h
  rw [h, bytesW, size_B]
theorem bytesW_below (l : List UInt8) (w : World) : Below w.heap.size w (bytesW l w) := ((Below.refl w.heap.size w).drew).alloc (Nat.le_refl _) _
theorem bytesW_size (l : List UInt8) (w : World) : (bytesW l w).heap.size = w.heap.size + 1 := by unfold bytesW; rw [World.size_alloc, World.size_drew]
theorem bytesW_range (l : List UInt8) (w : World) : (bytesW l w).rangeAt w.heap.size 0 (u8s l) := by
  intro j v hj
  have hjl : j < l.length := by have := (List.getElem?_eq_some_iff.1 hj).1; simpa using this
  have h1 : (bytesW l w).heap[w.heap.size]? = some (.cells (bytesRow (B l) (grownCap w (B l).size 0 5)) 5 ((bytesRow (B l) (grownCap w (B l).size 0 5)).size, (bytesRow (B l) (grownCap w (B l).size 0 5)).size + 1)) := heap_alloc_last w.drew _
  unfold World.cell?
  simp only [Nat.zero_add]
  rw [h1]
  have h2 : (bytesRow (B l) (grownCap w (B l).size 0 5))[j]? = some v := by
    unfold bytesRow
    rw [Array.getElem?_append_left (by simp [B]; exact hjl)]
    have : (u8s l)[j]? = some v := hj
    simp only [u8s, List.getElem?_map] at this
    simp only [Array.getElem?_map]
    simpa [B] using this
  simpa using h2
theorem bytesW_cap (l : List UInt8) (w : World) : l.length ≤ grownCap w l.length 0 5 := grownCap_ge w _ _ _
/-- Bytes as a slice. -/
def IsBytes (w : World) (x : Value) (l : List UInt8) : Prop := (x = .slice none 0 0 ∧ l = []) ∨ ∃ d o cap, x = .slice (some ⟨d, o, none⟩) l.length cap ∧ d < w.heap.size ∧ l.length ≤ cap ∧ w.rangeAt d o (u8s l)
theorem IsBytes.fr {S : Nat → Prop} {w w' : World} {x : Value} {l : List UInt8} (h : IsBytes w x l) (hf : Fr S w w') (hS : ∀ d, x.ownBlock = some d → ¬ S d) : IsBytes w' x l := by
  rcases h with h | ⟨d, o, cap, rfl, h1, h2, h3⟩
  · exact .inl h
  · refine .inr ⟨d, o, cap, rfl, Nat.lt_of_lt_of_le h1 hf.size, h2, fun j v hj => ?_⟩
    rw [hf.cell h1 (hS d rfl)]
    exact h3 j v hj
/-- All blocks that a write to the countWriter turns. -/
def Wr.all (O : Wr) (ob : Option Nat) (b : Nat) : Prop := O.turns ob b ∨ b = O.cw
abbrev cwv (O : Wr) : Value := .iface 126 (.pointer (some ⟨O.cw, 0, none⟩))
/-- L was written by way of the countWriter. -/
structure OutC (w : World) (O : Wr) (L : List UInt8) (ob : Option Nat) : Prop where
  out : Out w O L ob
  cw : Blk w O.cw #[bwv O, .int .i64 L.length] 130
  o3 : ob ≠ some O.cw
theorem Out.obs {w : World} {O : Wr} {L : List UInt8} {ob : Option Nat} (h : Out w O L ob) : ∀ x, ob = some x → O.base ≤ x ∧ x < w.heap.size := by
  obtain ⟨L1, L2, cur, e, h⟩ := h
  exact h.bld.ob_lt
theorem OutC.fr {S : Nat → Prop} {w w' : World} {O : Wr} {L : List UInt8} {ob : Option Nat} (h : OutC w O L ob) (hf : Fr S w w') (hS : ∀ x, O.all ob x → ¬ S x) : OutC w' O L ob :=
  ⟨h.out.fr hf (fun x hx => hS x (.inl hx)), hf.blk h.cw (hS _ (.inr rfl)), h.o3⟩
theorem Fr.alls {w w1 w2 : World} {O : Wr} {a b : Option Nat} (h1 : Fr (O.all a) w w1) (h2 : Fr (O.all b) w1 w2) (hn : obNext a b w.heap.size) : Fr (O.all a) w w2 :=
  h1.trans h2 fun i hi hT => by
    rcases hT with (h | h | h | h) | h
    · exact .inl (.inl h)
    · exact .inl (.inr (.inl h))
    · exact .inl (.inr (.inr (.inl h)))
    · rcases hn with rfl | ⟨x, rfl, hx⟩
      · exact .inl (.inr (.inr (.inr h)))
      · cases h; omega
    · exact .inr h
set_option maxRecDepth 100000 in
set_option maxHeartbeats 1000000 in
theorem cwWrite_any (O : Wr) (hO : O.Ok) (x : Value) (L M : List UInt8) (ob : Option Nat) (w : World) (h : OutC w O L ob) (hx : IsBytes w x M) (hs : ∀ d, x.ownBlock = some d → ¬ O.all ob d) (hlen : L.length + M.length ≤ 140737488355328) (hbase : O.base ≤ w.heap.size) :
    Calls Tryz.prog 95 #[.pointer (some ⟨O.cw, 0, none⟩), x] w fun e w' => e = .returned (.tuple #[.int .i64 M.length, .nilIface]) ∧ ∃ ob', Hid (OutC w' O (L ++ M) ob' ∧ obNext ob ob' w.heap.size ∧ Fr (O.all ob) w w') := by
  have HW : Hid (Calls Tryz.prog 200 #[.pointer (some ⟨O.bw, 0, none⟩), x] w fun e w' => e = .returned (.tuple #[.int .i64 M.length, .nilIface]) ∧ ∃ ob', Hid (Out w' O (L ++ M) ob' ∧ obNext ob ob' w.heap.size ∧ Fr (O.turns ob) w w')) := by
    rcases hx with ⟨rfl, rfl⟩ | ⟨d, o, cap, rfl, h1, h2, h3⟩
    · refine Lib.hid ((bwWriteNil_any O hO L ob w h.out).mono ?_)
      rintro e w' ⟨rfl, hh⟩
      exact ⟨rfl, ob, Lib.hid ⟨by rw [List.append_nil]; exact hh.out.1, .inl rfl, hh.out.2⟩⟩
    · exact Lib.hid (bwWrite_any O hO d o M.length cap L M ob w h.out rfl h3 h1 (fun e => hs d rfl (.inl e)) h2 hlen hbase)
  have c0 : w.cell? ⟨O.cw, 0, none⟩ = some (bwv O) := h.cw.cell 0
  have HH := Lib.hid h
  have hcwl := h.cw.lt
  clear h hx
  go_enter Tryz.func95, Tryz.ntmps95
  go_wp2_with fail
  refine HW.out.mono ?_
  rintro e w1 ⟨rfl, ob', h1⟩
  have hcw1 : Blk w1 O.cw #[bwv O, .int .i64 L.length] 130 := h1.out.2.2.blk HH.out.cw (fun e => by
    rcases e with e | e | e | e
    · exact hO.d3 e.symm
    · exact hO.d5 e.symm
    · exact hO.d6 e.symm
    · exact HH.out.o3 e.symm)
  have c1 : w1.cell? ⟨O.cw, 1, none⟩ = some (.int .i64 L.length) := hcw1.cell 1
  have f1 : w1.frozen? ⟨O.cw, 1, none⟩ = false := hcw1.frozen 1
  have hne : ob' ≠ some O.cw := h1.out.2.1.ne HH.out.o3 hcwl
  have FIN : Hid (OutC (w1.setCell ⟨O.cw, 1, none⟩ (.int .i64 ((L.length : Int) + (M.length : Int)))) O (L ++ M) ob' ∧ obNext ob ob' w.heap.size ∧ Fr (O.all ob) w (w1.setCell ⟨O.cw, 1, none⟩ (.int .i64 ((L.length : Int) + (M.length : Int))))) := Lib.hid (by
    have e : ((L.length : Int) + (M.length : Int)) = ((L ++ M).length : Int) := by simp
    rw [e]
    refine ⟨⟨h1.out.1.fr ((Fr.refl (· = O.cw) w1).setCell (fun _ => rfl) _) ?_, hcw1.set 1 _, hne⟩, h1.out.2.1, (h1.out.2.2.mono (fun _ _ h => .inl h)).setCell (fun _ => .inr rfl) _⟩
    intro x hx e
    subst e
    rcases hx with e | e | e | e
    · exact hO.d3 e.symm
    · exact hO.d5 e.symm
    · exact hO.d6 e.symm
    · exact hne e.symm)
  clear hcw1 h1 HW HH hne
  go_wp2
  go_ret2
  exact ⟨rfl, ob', FIN⟩
/-- The same behind operations that only read. -/
theorem cwWrite_still (O : Wr) (hO : O.Ok) (x : Value) (L M : List UInt8) (ob : Option Nat) (w : World) (h : OutC w O L ob) (hx : IsBytes w x M) (hs : ∀ d, x.ownBlock = some d → ¬ O.all ob d) (hlen : L.length + M.length ≤ 140737488355328) (hbase : O.base ≤ w.heap.size) (n : Nat) (hn : M.length = n) :
    ∀ w', Fr (fun _ => False) w w' → Calls Tryz.prog 95 #[.pointer (some ⟨O.cw, 0, none⟩), x] w' fun e w'' => e = .returned (.tuple #[.int .i64 n, .nilIface]) ∧ ∃ ob', Hid (OutC w'' O (L ++ M) ob' ∧ obNext ob ob' w.heap.size ∧ Fr (O.all ob) w w'') := by
  intro w' hw'
  subst hn
  refine (cwWrite_any O hO x L M ob w' (h.fr hw' (fun _ _ => id)) (hx.fr hw' (fun _ _ => id)) hs hlen (Nat.le_trans hbase hw'.size)).mono ?_
  rintro e w'' ⟨rfl, ob', hh⟩
  obtain ⟨h1, h2, h3⟩ := hh.out
  refine ⟨rfl, ob', Lib.hid ⟨h1, ?_, hw'.trans2 h3 (U := O.all ob) (fun _ h => h.elim) (fun _ h => h)⟩⟩
  rcases h2 with h2 | ⟨y, h2, h4⟩
  · exact .inl h2
  · exact .inr ⟨y, h2, Nat.le_trans hw'.size h4⟩
/-- A text that has just been turned into bytes. -/
theorem cwBytes_any (O : Wr) (hO : O.Ok) (L l : List UInt8) (ob : Option Nat) (w : World) (h : OutC w O L ob) (hlen : L.length + l.length ≤ 140737488355328) (hbase : O.base ≤ w.heap.size) (w' : World) (hw' : Fr (fun _ => False) w w') :
    Calls Tryz.prog 95 #[.pointer (some ⟨O.cw, 0, none⟩), .slice (some ⟨w'.heap.size, 0, none⟩) l.length (grownCap w' l.length 0 5)] (bytesW l w') fun e w'' => e = .returned (.tuple #[.int .i64 l.length, .nilIface]) ∧ ∃ ob', Hid (OutC w'' O (L ++ l) ob' ∧ obNext ob ob' w.heap.size ∧ Fr (O.all ob) w w'') := by
  have hb := bytesW_below l w'
  have hf : Fr (fun _ => False) w (bytesW l w') := hw'.trans2 (Fr.of_below (S := fun _ => False) hb) (U := fun _ => False) (fun _ h => h) (fun _ h => h)
  have hs := hw'.size
  refine (cwWrite_any O hO _ L l ob (bytesW l w') (h.fr hf (fun _ _ => id)) (.inr ⟨w'.heap.size, 0, _, rfl, by rw [bytesW_size]; omega, bytesW_cap l w', bytesW_range l w'⟩) ?_ hlen (by rw [bytesW_size]; omega)).mono ?_
  · intro d hd
    have hd2 : w'.heap.size = d := Option.some.inj hd
    subst hd2
    have h1 := h.out.lts
    have h2 := h.cw.lt
    rintro ((e | e | e | e) | e)
    · omega
    · omega
    · omega
    · have := (h.out.obs _ e.symm).2; omega
    · omega
  · rintro e w'' ⟨rfl, ob', hh⟩
    obtain ⟨h1, h2, h3⟩ := hh.out
    refine ⟨rfl, ob', Lib.hid ⟨h1, ?_, hf.trans2 h3 (U := O.all ob) (fun _ h => h.elim) (fun _ h => h)⟩⟩
    rcases h2 with h2 | ⟨y, h2, h4⟩
    · exact .inl h2
    · exact .inr ⟨y, h2, by rw [bytesW_size] at h4; omega⟩
end Go.Proofs.Zip
