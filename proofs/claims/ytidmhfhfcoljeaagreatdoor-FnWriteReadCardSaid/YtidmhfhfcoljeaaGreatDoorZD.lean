/- A part of a proof over the given program: Bf. Nothing is assumed here. -/
import Derived.Test.YtidmhfhfcoljeaaGreatDoorZC
import Derived.Deep.DeepCutAuto
namespace Go.Proofs.Zip
open Go Go.RowKit

/-- A part as an io.Reader. -/
abbrev partv (s : Nat) : Value := .iface 124 (.pointer (some ⟨s, 0, none⟩))
abbrev bufCells (q s : Nat) (r u : Nat) (e : Value) (lb lr : Int) : Array Value := #[.slice (some ⟨q, 0, none⟩) 4096 4096, partv s, .int .i64 r, .int .i64 u, e, .int .i64 lb, .int .i64 lr]
section
variable {w : World} {bb q s r u : Nat} {e : Value} {lb lr : Int} (h : Blk w bb (bufCells q s r u e lb lr) 276)
include h
theorem bufSet2 (v : Nat) : Blk (w.setCell ⟨bb, 2, none⟩ (.int .i64 v)) bb (bufCells q s v u e lb lr) 276 := h.set 2 _
theorem bufSet3 (v : Nat) : Blk (w.setCell ⟨bb, 3, none⟩ (.int .i64 v)) bb (bufCells q s r v e lb lr) 276 := h.set 3 _
theorem bufSet4 (v : Value) : Blk (w.setCell ⟨bb, 4, none⟩ v) bb (bufCells q s r u v lb lr) 276 := h.set 4 _
theorem bufSet5 (v : Int) : Blk (w.setCell ⟨bb, 5, none⟩ (.int .i64 v)) bb (bufCells q s r u e v lr) 276 := h.set 5 _
theorem bufSet6 (v : Int) : Blk (w.setCell ⟨bb, 6, none⟩ (.int .i64 v)) bb (bufCells q s r u e lb v) 276 := h.set 6 _
end
/-- The buffered reader at block bb, over the part s of the text a: it still gives l. -/
structure Buf (w : World) (bb q s a : Nat) (base n : Int) (D : List UInt8) (lim : Nat) (eEOF : Addr) (r u : Nat) (e : Value) (cells : Array Value) (off : Nat) (l1 : List UInt8) : Prop where
  own : ∃ lb lr, Blk w bb (bufCells q s r u e lb lr) 276
  buf : Blk w q cells 5
  size : cells.size = 4096
  ru : u = r + l1.length
  u4 : u ≤ 4096
  got : (cells.toList.drop r).take l1.length = u8s l1
  part : IsPart w s a base off lim n
  text : IsText w a D
  err : e = .nilIface ∨ e = errv eEOF ∧ rest D off lim = []
def IsBufd (w : World) (bb q s a : Nat) (base n : Int) (D : List UInt8) (lim : Nat) (eEOF : Addr) (l : List UInt8) : Prop :=
  ∃ r u e cells off l1, Buf w bb q s a base n D lim eEOF r u e cells off l1 ∧ l = l1 ++ rest D off lim

theorem readErr_any (bb q s r u : Nat) (e : Value) (lb lr : Int) (w : World) (h : Blk w bb (bufCells q s r u e lb lr) 276) :
    Calls Tryz.prog 222 #[.pointer (some ⟨bb, 0, none⟩)] w fun x w' => x = .returned e ∧ Blk w' bb (bufCells q s r u .nilIface lb lr) 276 ∧ Fr (· = bb) w w' := by
  go_enter Tryz.func222, Tryz.ntmps222
  have c4 : w.cell? ⟨bb, 4, none⟩ = some e := h.cell 4
  have f4 : w.frozen? ⟨bb, 4, none⟩ = false := h.frozen 4
  go_wp2
  go_ret
  exact ⟨rfl, h.set 4 _, (Fr.refl (· = bb) _).setCell (fun _ => rfl) _⟩
def ErrOk (r : Value) (e : Addr) (l : List UInt8) : Prop := r = .nilIface ∨ r = errv e ∧ l = []
theorem take_drop_min {α : Type} (L : List α) (m : Nat) : L.take m ++ L.drop (L.take m).length = L := by
  rw [List.length_take]
  by_cases h : m ≤ L.length
  · rw [Nat.min_eq_left h, List.take_append_drop]
  · rw [Nat.min_eq_right (by omega), drop_nil_of_le (Nat.le_refl _), List.take_of_length_le (by omega), List.append_nil]
/-- The blocks of a buffered reader and of what is read into lie apart. (Under one name: so many inequalities are dear to omega.) -/
structure Apart (g bb q s a : Nat) (e : Addr) : Prop where
  d1 : g ≠ bb
  d2 : g ≠ q
  d3 : g ≠ s
  d4 : g ≠ a
  d5 : bb ≠ q
  d6 : bb ≠ s
  d7 : bb ≠ a
  d8 : q ≠ s
  d9 : q ≠ a
  d10 : s ≠ a
  x1 : g ≠ 5
  x2 : q ≠ 5
  x3 : bb ≠ 5
  x4 : bb ≠ e.block
/-- What a read of the buffered reader does, l being what it still gives. -/
def BufPost (bb q s a g o len lim : Nat) (base n : Int) (D l : List UInt8) (cur : Array Value) (t : TypeId) (eEOF : Addr) (w : World) (e : Ending) (w' : World) : Prop :=
  ∃ (k : Nat) (r : Value), e = .returned (.tuple #[.int .i64 k, r]) ∧ k ≤ len ∧ k ≤ l.length ∧ (l ≠ [] → 0 < k) ∧ (r = .nilIface ∨ r = errv eEOF ∧ l.drop k = []) ∧ (l = [] → r = errv eEOF) ∧
    Blk w' g (put cur o (l.take k)) t ∧ IsBufd w' bb q s a base n D lim eEOF (l.drop k) ∧ Fr (fun b => b = g ∨ b = bb ∨ b = q ∨ b = s) w w'
set_option maxRecDepth 100000 in
set_option maxHeartbeats 2000000 in
theorem bufRead_any (bb q s a g o len cap lim : Nat) (base n : Int) (D l : List UInt8) (cur : Array Value) (t : TypeId) (eEOF : Addr) (w : World) (hb : IsBufd w bb q s a base n D lim eEOF l) (hg : Blk w g cur t) (hfit : o + len ≤ cur.size) (hE : Sen w 5 eEOF)
    (hlen : 0 < len) (hcap : len ≤ cap) (hlen2 : len ≤ 4611686018427387904) (hlim : lim ≤ 4611686018427387904) (hD : D.length ≤ 4611686018427387904)
    (hd : Apart g bb q s a eEOF) :
    Calls Tryz.prog 218 #[.pointer (some ⟨bb, 0, none⟩), .slice (some ⟨g, o, none⟩) len cap] (w) (BufPost bb q s a g o len lim base n D l cur t eEOF w) := by
  obtain ⟨r, u, e, cells, off0, l1, hB, rfl⟩ := hb
  obtain ⟨lb, lr, ho⟩ := hB.own
  have hru := hB.ru
  have hu4 := hB.u4
  go_enter Tryz.func218, Tryz.ntmps218
  have c0 : w.cell? ⟨bb, 0, none⟩ = some (.slice (some ⟨q, 0, none⟩) 4096 4096) := ho.cell 0
  have c1 : w.cell? ⟨bb, 1, none⟩ = some (partv s) := ho.cell 1
  have c2 : w.cell? ⟨bb, 2, none⟩ = some (.int .i64 r) := ho.cell 2
  have c3 : w.cell? ⟨bb, 3, none⟩ = some (.int .i64 u) := ho.cell 3
  have c4 : w.cell? ⟨bb, 4, none⟩ = some e := ho.cell 4
  have f4d : w.drew.frozen? ⟨bb, 4, none⟩ = false := ho.frozen 4
  have HB := Lib.hid hB
  have HO := Lib.hid ho
  have HG := Lib.hid hg
  have HE := Lib.hid hE
  clear hB ho hg hE
  go_upto_region 6 with fail
  go_region
  go_upto_if 23 with fail
  go_cut [4] (fun s4 wx => ∃ r u e cells off l2, Buf wx bb q s a base n D lim eEOF r u e cells off l2 ∧ l1 ++ rest D off0 lim = l2 ++ rest D off lim ∧ 0 < l2.length ∧ Blk wx g cur t ∧ Fr (fun b => b = g ∨ b = bb ∨ b = q ∨ b = s) w wx)
  case first =>
    by_cases hl : l1.length = 0
    · obtain rfl : l1 = [] := List.eq_nil_of_length_eq_zero hl
      have hru0 : u = r := by simpa using hru
      subst hru0
      clear hru hl
      have h23 : ((u : Int) == u + (([] : List UInt8).length : Int)) = true := by simp
      have herr := HB.out.err
      rcases herr with rfl | ⟨rfl, hrest⟩
      · by_cases h4 : 4096 ≤ len
        · have hsm : ((4096 : Int) ≤ len) := by omega
          obtain ⟨L, hL⟩ : ∃ L, Hid (L = rest D off0 lim) := ⟨_, Lib.hid rfl⟩
          obtain ⟨K, hK⟩ : ∃ K, Hid (K = (L.take len).length) := ⟨_, Lib.hid rfl⟩
          obtain ⟨cs, hcs⟩ : ∃ cs, Hid (cs = put cur o (L.take len)) := ⟨_, Lib.hid rfl⟩
          have HC : ∃ r, (r = .nilIface ∨ r = errv eEOF) ∧ Hid ((r = .nilIface ∨ r = errv eEOF ∧ L.drop len = []) ∧ (L = [] → r = errv eEOF)) ∧ Hid (Calls Tryz.prog 195 #[.pointer (some ⟨s, 0, none⟩), .slice (some ⟨g, o, none⟩) len cap] w.drew fun e w' => e = .returned (.tuple #[.int .i64 K, r]) ∧ Hid (Blk w' g cs t ∧ IsPart w' s a base (off0 + K : Nat) lim n ∧ Fr (fun b => b = g ∨ b = s) w.drew w')) := by
            obtain ⟨r, hr1, hr2, HC⟩ := partRead_any s a g o len cap off0 lim base n D cur t eEOF w.drew HB.out.text HB.out.part HG.out hfit HE.out.drew hd.x1 hd.d4 hd.d3 hlen hcap hlen2 hlim hD
            obtain rfl := hcs.out; obtain rfl := hK.out; obtain rfl := hL.out
            exact ⟨r, hr1.imp id And.left, Lib.hid ⟨hr1, hr2⟩, Lib.hid (HC.mono fun _ _ h => ⟨h.1, Lib.hid h.2⟩)⟩
          obtain ⟨rr, hrr, hr, HC⟩ := HC
          have hKl : K ≤ 4611686018427387904 := by have := hK.out; simp at this; omega
          have hbw : Hid (∀ w', Fr (fun b => b = g ∨ b = s) w.drew w' → Blk w' bb (bufCells q s u u .nilIface lb lr) 276) := Lib.hid fun w' hf => hf.blk HO.out (by rintro (h | h); exact hd.d1 h.symm; exact hd.d6 h)
          have fin : ∀ w' w2, Fr (fun b => b = g ∨ b = s) w.drew w' → Blk w' g cs t → IsPart w' s a base (off0 + K : Nat) lim n → Fr (· = bb) w' w2 → (∃ lb lr, Blk w2 bb (bufCells q s u u .nilIface lb lr) 276) →
              BufPost bb q s a g o len lim base n D ([] ++ rest D off0 lim) cur t eEOF w (.returned (.tuple #[.int .i64 K, rr])) w2 := by
            intro w' w2 hf hgw hpw hf2 hbb
            obtain rfl := hL.out; obtain rfl := hK.out; obtain rfl := hcs.out
            rw [List.nil_append]
            have hB := HB.out
            have hln : (rest D off0 lim).take ((rest D off0 lim).take len).length = (rest D off0 lim).take len := by simp [List.take_eq_take_iff]
            have hld : (rest D off0 lim).drop ((rest D off0 lim).take len).length = (rest D off0 lim).drop len := by
              rw [List.length_take]
              by_cases hq : len ≤ (rest D off0 lim).length
              · rw [Nat.min_eq_left hq]
              · rw [Nat.min_eq_right (by omega), drop_nil_of_le (Nat.le_refl _), drop_nil_of_le (by omega)]
            refine ⟨_, rr, rfl, by simp; omega, by simp; omega, fun hne => ?_, ?_, hr.out.2, ?_, ?_, ?_⟩
            · have := List.length_pos_iff.2 hne; simp; omega
            · rw [hld]; exact hr.out.1
            · rw [hln]; exact hf2.blk hgw hd.d1
            · refine ⟨u, u, .nilIface, cells, off0 + ((rest D off0 lim).take len).length, [], ⟨hbb, ?_, hB.size, rfl, hu4, rfl, ?_, ?_, .inl rfl⟩, ?_⟩
              · exact hf2.blk (hf.blk hB.buf (by rintro (h | h); exact hd.d2 h.symm; exact hd.d8 h)) (fun h => hd.d5 h.symm)
              · exact hf2.blk hpw (fun h => hd.d6 h.symm)
              · exact hf2.blk (hf.blk hB.text (by rintro (h | h); exact hd.d4 h.symm; exact hd.d10 h.symm)) (fun h => hd.d7 h.symm)
              · rw [rest_drop, List.nil_append]
            · refine ((Fr.refl _ _).drew.trans (T := fun b => b = g ∨ b = s) hf ?_).trans (T := (· = bb)) hf2 ?_
              · rintro i _ (h | h); exact .inl h; exact .inr (.inr (.inr h))
              · rintro i _ h; exact .inr (.inl h)
          have FIN := Lib.hid fin
          clear fin
          by_cases hK0 : K = 0
          · subst hK0
            rcases hrr with rfl | rfl
            · exfalso
              have h1 := hK.out
              have h2 : L = [] := by
                apply List.eq_nil_of_length_eq_zero; simp at h1; omega
              exact absurd (hr.out.2 h2) (by simp)
            · clear c2 c3
              go_wp2_with (first
              | (go_at_call 195; refine HC.out.mono ?_; rintro x w' ⟨rfl, hw⟩; have f4w := (hbw.out w' hw.out.2.2).frozen 4; have c4w : w'.cell? ⟨bb, 4, none⟩ = some .nilIface := (hbw.out w' hw.out.2.2).cell 4)
              | (go_at_call 222; refine (readErr_any bb q s u u _ lb lr _ (bufSet4 (hbw.out w' hw.out.2.2) _)).mono ?_; rintro x w2 ⟨rfl, hbb⟩))
              go_ret2
              refine FIN.out w' w2 hw.out.2.2 hw.out.1 hw.out.2.1 ?_ ⟨lb, lr, hbb.1⟩
              exact ((Fr.refl (· = bb) _).setCell (fun _ => rfl) _).trans hbb.2 (fun _ _ h => h)
          · obtain ⟨K', rfl⟩ : ∃ K', K = K' + 1 := ⟨K - 1, by omega⟩
            clear c2 c3 hK0
            have hbyte : ∃ x : Nat, x < 256 ∧ Hid (∀ w', Blk w' g cs t → w'.cell? ⟨g, o + K', none⟩ = some (.int .u8 x)) := by
              have hl : K' < (L.take len).length := by rw [← hK.out]; omega
              refine ⟨((L.take len)[K']).toNat, UInt8.toNat_lt _, Lib.hid fun w' h => ?_⟩
              rw [h.cell, hcs.out, put_get _ _ _ (by simp at hl ⊢; omega), if_pos (by omega), show o + K' - o = K' by omega]
              have hl2 : K' < L.length := by simp at hl; omega
              have hl3 : K' < len := by simp at hl; omega
              simp [u8s, hl2, hl3]
            obtain ⟨x, hx, hbyte⟩ := hbyte
            have hKlen : K' < len := by have := hK.out; simp at this; omega
            rcases hrr with rfl | rfl
            all_goals (
              go_wp2_with (first
              | (go_at_call 195; refine HC.out.mono ?_; rintro x w' ⟨rfl, hw⟩; have f4w := (hbw.out w' hw.out.2.2).frozen 4; have c4w : w'.cell? ⟨bb, 4, none⟩ = some .nilIface := (hbw.out w' hw.out.2.2).cell 4; have f5w := (hbw.out w' hw.out.2.2).frozen 5; have c5w : w'.cell? ⟨bb, 5, none⟩ = some (.int .i64 lb) := (hbw.out w' hw.out.2.2).cell 5; have f6w := (hbw.out w' hw.out.2.2).frozen 6; have c6w : w'.cell? ⟨bb, 6, none⟩ = some (.int .i64 lr) := (hbw.out w' hw.out.2.2).cell 6; have cgw : ∀ v, (w'.setCell ⟨bb, 4, none⟩ v).cell? ⟨g, o + K', none⟩ = some (.int .u8 x) := fun v => hbyte.out _ (hw.out.1.set_ne hd.d1 v))
              | (go_at_call 222; refine (readErr_any bb q s u u _ x (-1) _ (bufSet6 (bufSet5 (bufSet4 (hbw.out w' hw.out.2.2) _) x) (-1))).mono ?_; rintro y w2 ⟨rfl, hbb⟩))
              go_ret2
              refine FIN.out w' w2 hw.out.2.2 hw.out.1 hw.out.2.1 ?_ ⟨_, _, hbb.1⟩
              exact ((((Fr.refl (· = bb) _).setCell (fun _ => rfl) _).setCell (fun _ => rfl) _).setCell (fun _ => rfl) _).trans hbb.2 (fun _ _ h => h))
        · have hsm : ¬ ((4096 : Int) ≤ len) := by omega
          obtain ⟨L, hL⟩ : ∃ L, Hid (L = rest D off0 lim) := ⟨_, Lib.hid rfl⟩
          obtain ⟨K, hK⟩ : ∃ K, Hid (K = (L.take 4096).length) := ⟨_, Lib.hid rfl⟩
          obtain ⟨cs, hcs⟩ : ∃ cs, Hid (cs = put cells 0 (L.take 4096)) := ⟨_, Lib.hid rfl⟩
          have f2 : w.frozen? ⟨bb, 2, none⟩ = false := HO.out.frozen 2
          have f3 : w.frozen? ⟨bb, 3, none⟩ = false := HO.out.frozen 3
          go_upto_region 19 with fail
          have hW : ∃ W3, Hid (Blk W3 bb (bufCells q s (0 : Nat) (0 : Nat) .nilIface lb lr) 276 ∧ Blk W3 q cells 5 ∧ Blk W3 g cur t ∧ IsPart W3 s a base off0 lim n ∧ IsText W3 a D ∧ Sen W3 5 eEOF ∧ Fr (· = bb) w W3) ∧ W3 = ((w.setCell ⟨bb, 2, none⟩ (.int .i64 0)).setCell ⟨bb, 3, none⟩ (.int .i64 0)).drew := by
            have hB := HB.out
            have hf : Fr (· = bb) w ((w.setCell ⟨bb, 2, none⟩ (.int .i64 0)).setCell ⟨bb, 3, none⟩ (.int .i64 0)).drew := (((Fr.refl (· = bb) _).setCell (fun _ => rfl) _).setCell (fun _ => rfl) _).drew
            refine ⟨_, Lib.hid ?_, rfl⟩
            exact ⟨bufSet3 (bufSet2 HO.out 0) 0, hf.blk hB.buf (fun h => hd.d5 h.symm), hf.blk HG.out hd.d1, hf.blk hB.part (fun h => hd.d6 h.symm), hf.blk hB.text (fun h => hd.d7 h.symm), HE.out.fr hf (fun h => hd.x3 h.symm) (fun h => hd.x4 h.symm), hf⟩
          obtain ⟨W3, HW, hW3⟩ := hW
          rw [← hW3]
          have HC : ∃ r, (r = .nilIface ∨ r = errv eEOF) ∧ Hid ((r = .nilIface ∨ r = errv eEOF ∧ L.drop 4096 = []) ∧ (L = [] → r = errv eEOF)) ∧ Hid (Calls Tryz.prog 195 #[.pointer (some ⟨s, 0, none⟩), .slice (some ⟨q, 0, none⟩) 4096 4096] W3.drew fun e w' => e = .returned (.tuple #[.int .i64 K, r]) ∧ Hid (Blk w' q cs 5 ∧ IsPart w' s a base (off0 + K : Nat) lim n ∧ Fr (fun b => b = q ∨ b = s) W3.drew w')) := by
            obtain ⟨h1, h2, h3, h4, h5, h6, h7⟩ := HW.out
            obtain ⟨r, hr1, hr2, HC⟩ := partRead_any s a q 0 4096 4096 off0 lim base n D cells 5 eEOF W3.drew h5 h4 h2 (by rw [HB.out.size]; omega) h6.drew hd.x2 hd.d9 hd.d8 (by omega) (Nat.le_refl _) (by omega) hlim hD
            obtain rfl := hcs.out; obtain rfl := hK.out; obtain rfl := hL.out
            exact ⟨r, hr1.imp id And.left, Lib.hid ⟨hr1, hr2⟩, Lib.hid (HC.mono fun _ _ h => ⟨h.1, Lib.hid h.2⟩)⟩
          obtain ⟨rr, hrr, hr, HC⟩ := HC
          have hK4 : K ≤ 4096 := by have := hK.out; simp at this; omega
          clear c0 c1 c2 c3 c4 f2 f3 f4d hW3
          have c0 : W3.cell? ⟨bb, 0, none⟩ = some (.slice (some ⟨q, 0, none⟩) 4096 4096) := HW.out.1.cell 0
          have c1 : W3.cell? ⟨bb, 1, none⟩ = some (partv s) := HW.out.1.cell 1
          have hbw : Hid (∀ w', Fr (fun b => b = q ∨ b = s) W3.drew w' → Blk w' bb (bufCells q s (0 : Nat) (0 : Nat) .nilIface lb lr) 276) := Lib.hid fun w' hf => hf.blk HW.out.1 (by rintro (h | h); exact hd.d5 h; exact hd.d6 h)
          by_cases hK0 : K = 0
          · subst hK0
            have hL0 : L = [] := by
              have h1 := hK.out
              apply List.eq_nil_of_length_eq_zero; simp at h1; omega
            obtain rfl := hr.out.2 hL0
            go_region_with (go_at_call 195; refine HC.out.mono ?_; rintro x w' ⟨rfl, hw⟩; have f4w := (hbw.out w' hw.out.2.2).frozen 4; have c4w : w'.cell? ⟨bb, 4, none⟩ = some .nilIface := (hbw.out w' hw.out.2.2).cell 4)
            all_goals (
              go_wp2_with (go_at_call 222; refine (readErr_any bb q s (0 : Nat) (0 : Nat) _ lb lr _ (bufSet4 (hbw.out w' hw.out.2.2) _)).mono ?_; rintro x w2 ⟨rfl, hbb⟩)
              go_ret2
              have h0 : rest D off0 lim = [] := hL.out.symm.trans hL0
              rw [h0]
              obtain ⟨h1, h2, h3, h4, h5, h6, h7⟩ := HW.out
              have hf1 : Fr (fun b => b = q ∨ b = s ∨ b = bb) W3.drew w2 := by
                refine (hw.out.2.2.mono (fun _ _ h => ?_)).trans (T := (· = bb)) (((Fr.refl (· = bb) _).setCell (fun _ => rfl) _).trans hbb.2 (fun _ _ h => h)) (fun _ _ h => .inr (.inr h))
                rcases h with h | h; exact .inl h; exact .inr (.inl h)
              have hcs0 : cs = cells := by rw [hcs.out, hL0, List.take_nil, put_nil]
              refine ⟨0, errv eEOF, rfl, by omega, by simp, fun h => (h rfl).elim, .inr ⟨rfl, rfl⟩, fun _ => rfl, ?_, ?_, ?_⟩
              · rw [List.append_nil, List.take_nil, put_nil]
                exact hf1.blk (w := W3.drew) h3 (by rintro (h | h | h); exact hd.d2 h; exact hd.d3 h; exact hd.d1 h)
              · have hbf : Fr (· = bb) w' w2 := ((Fr.refl (· = bb) _).setCell (fun _ => rfl) _).trans hbb.2 (fun _ _ h => h)
                refine ⟨0, 0, .nilIface, cells, off0, [], ⟨⟨lb, lr, hbb.1⟩, ?_, HB.out.size, rfl, by omega, rfl, ?_, ?_, .inl rfl⟩, by rw [h0]; rfl⟩
                · rw [← hcs0]; exact hbf.blk hw.out.1 (fun h => hd.d5 h.symm)
                · exact hbf.blk hw.out.2.1 (fun h => hd.d6 h.symm)
                · exact hf1.blk (w := W3.drew) h5 (by rintro (h | h | h); exact hd.d9 h.symm; exact hd.d10 h.symm; exact hd.d7 h.symm)
              · exact h7.drew.trans2 hf1 (fun _ h => .inr (.inl h)) (by rintro _ (h | h | h); exact .inr (.inr (.inl h)); exact .inr (.inr (.inr h)); exact .inr (.inl h)))
          · obtain ⟨K', rfl⟩ : ∃ K', K = K' + 1 := ⟨K - 1, by omega⟩
            clear hK0
            have f3w : Hid (∀ w', Fr (fun b => b = q ∨ b = s) W3.drew w' → w'.frozen? ⟨bb, 3, none⟩ = false ∧ w'.cell? ⟨bb, 3, none⟩ = some (.int .i64 0)) := Lib.hid fun w' hf => ⟨(hbw.out w' hf).frozen 3, (hbw.out w' hf).cell 3⟩
            have HZ : Hid (ErrOk rr eEOF (rest D (off0 + (K' + 1)) lim)) := by
              refine Lib.hid (hr.out.1.imp id fun h => ⟨h.1, ?_⟩)
              rw [rest_drop, ← hL.out, hK.out]
              have := h.2
              rw [List.drop_eq_nil_iff] at this ⊢
              rw [List.length_take]; omega
            rcases hrr with rfl | rfl
            all_goals (
              go_region_with (go_at_call 195; refine HC.out.mono ?_; rintro x w' ⟨rfl, hw⟩; have f4w := (hbw.out w' hw.out.2.2).frozen 4; have c4w : w'.cell? ⟨bb, 4, none⟩ = some .nilIface := (hbw.out w' hw.out.2.2).cell 4; have c3w := (f3w.out w' hw.out.2.2).2; have f3w := (f3w.out w' hw.out.2.2).1)
              all_goals (
                go_wp2
                go_meet
                obtain ⟨h1, h2, h3, h4, h5, h6, h7⟩ := HW.out
                have hbf : ∀ v, Fr (· = bb) w' ((w'.setCell ⟨bb, 4, none⟩ v).setCell ⟨bb, 3, none⟩ (.int .i64 (K' + 1 : Nat))) := fun _ => ((Fr.refl (· = bb) _).setCell (fun _ => rfl) _).setCell (fun _ => rfl) _
                refine ⟨0, K' + 1, _, cs, off0 + (K' + 1), L.take 4096, ⟨⟨lb, lr, bufSet3 (bufSet4 (hbw.out w' hw.out.2.2) _) (K' + 1)⟩, ?_, ?_, ?_, hK4, ?_, ?_, ?_, ?_⟩, ?_, ?_, ?_, ?_⟩
                · exact (hbf _).blk hw.out.1 (fun h => hd.d5 h.symm)
                · rw [hcs.out, size_put _ _ _ (by rw [HB.out.size]; simp; omega)]; exact HB.out.size
                · rw [← hK.out]; omega
                · rw [hcs.out]; exact put_range _ _ _ (by rw [HB.out.size]; simp; omega)
                · exact (hbf _).blk hw.out.2.1 (fun h => hd.d6 h.symm)
                · exact (hbf _).blk (hw.out.2.2.blk (w := W3.drew) h5 (by rintro (h | h); exact hd.d9 h.symm; exact hd.d10 h.symm)) (fun h => hd.d7 h.symm)
                · exact HZ.out
                · rw [rest_drop, ← hL.out, hK.out, List.nil_append]
                  exact (take_drop_min L 4096).symm
                · rw [← hK.out]; omega
                · exact (hbf _).blk (hw.out.2.2.blk (w := W3.drew) h3 (by rintro (h | h); exact hd.d2 h; exact hd.d3 h)) hd.d1
                · exact (h7.drew.trans2 hw.out.2.2 (U := fun b => b = g ∨ b = bb ∨ b = q ∨ b = s) (fun _ h => .inr (.inl h)) (by rintro _ (h | h); exact .inr (.inr (.inl h)); exact .inr (.inr (.inr h)))).trans2 (hbf _) (fun _ h => h) (fun _ h => .inr (.inl h))))
      · -- the error waits
        go_wp2_with (go_at_call 222; refine (readErr_any bb q s u u _ lb lr w.drew HO.out).mono ?_; rintro x w' ⟨rfl, hbb⟩)
        go_ret2
        rw [hrest]
        have hB := HB.out
        refine ⟨0, errv eEOF, rfl, by omega, by simp, fun h => (h rfl).elim, .inr ⟨rfl, rfl⟩, fun _ => rfl, ?_, ?_, ?_⟩
        · rw [List.append_nil, List.take_nil, put_nil]
          exact hbb.2.blk (w := w.drew) HG.out hd.d1
        · refine ⟨u, u, .nilIface, cells, off0, [], ⟨⟨lb, lr, hbb.1⟩, hbb.2.blk (w := w.drew) hB.buf (fun h => hd.d5 h.symm), hB.size, rfl, hu4, rfl, hbb.2.blk (w := w.drew) hB.part (fun h => hd.d6 h.symm), hbb.2.blk (w := w.drew) hB.text (fun h => hd.d7 h.symm), .inl rfl⟩, by rw [hrest]; rfl⟩
        · exact (Fr.refl (· = bb) _).drew.trans2 hbb.2 (fun _ h => .inr (.inl h)) (fun _ h => .inr (.inl h))
    · have h23 : ((r : Int) == r + l1.length) = false := by simp; omega
      go_wp2
      go_meet
      have hB := HB.out
      exact ⟨r, u, e, cells, off0, l1, ⟨⟨lb, lr, HO.out⟩, hB.buf, hB.size, hru, hu4, hB.got, hB.part, hB.text, hB.err⟩, rfl, by omega, HG.out, (Fr.refl _ _).drew⟩
  case rest =>
    obtain ⟨r2, u2, e2, cells2, off2, l2, hB2, hl, hpos, hg2, hf2⟩ := hcut
    have HL := Lib.hid hl
    obtain ⟨lb2, lr2, ho2⟩ := hB2.own
    have hru2 := hB2.ru
    have hu42 := hB2.u4
    subst hru2
    clear c0 c1 c2 c3 c4 f4d hru hu4 HB HO HG hl
    have c0 : wc.cell? ⟨bb, 0, none⟩ = some (.slice (some ⟨q, 0, none⟩) 4096 4096) := ho2.cell 0
    have c2 : wc.cell? ⟨bb, 2, none⟩ = some (.int .i64 r2) := ho2.cell 2
    have c3 : wc.cell? ⟨bb, 3, none⟩ = some (.int .i64 (r2 + l2.length : Nat)) := ho2.cell 3
    obtain ⟨k, hk⟩ : ∃ k, Hid (k = min l2.length len) := ⟨_, Lib.hid rfl⟩
    have hk1 : k ≤ l2.length := by have := hk.out; omega
    have hk2 : k ≤ len := by have := hk.out; omega
    have hk0 : 0 < k := by have := hk.out; omega
    have HO2 := Lib.hid ho2
    have HB2 := Lib.hid hB2
    have HG2 := Lib.hid hg2
    have HF2 := Lib.hid hf2
    clear ho2 hB2 hg2 hf2
    go_upto_region 25 with fail
    refine wp_still_tail 14 (by kernel_rfl) (by kernel_rfl) ?_
    simp only [List.take_succ_cons, List.take_zero, List.drop_succ_cons, List.drop_zero]
    repeat still_step
    refine wpStill_step (fun K hK => ?_)
    go_simp
    rw [if_pos (show (0 : Int) ≤ ↑r2 + ↑l2.length ∧ (↑r2 + ↑l2.length : Int) ≤ 4096 from ⟨by omega, by omega⟩), if_pos (show r2 ≤ ((r2 : Int) + l2.length).toNat by omega), if_neg (show ¬ 4096 = r2 by omega), show ((r2 : Int) + l2.length).toNat - r2 = l2.length by omega]
    refine ⟨rfl, hK _ ?_⟩
    clear hK K
    refine wpStill_nil ?_
    have hlt : (l2.take k).length = k := by simp; omega
    have hrange : wc.rangeAt q r2 (u8s (l2.take k)) := by
      have h1 : wc.rangeAt q r2 (u8s l2) := HB2.out.buf.range (by simpa using HB2.out.got)
      refine rangeAt_part (n := 0) (o := r2) h1 ?_
      simp [u8s, List.map_take]
    refine wpList_copy_bytes rfl _ _ 76 76 rfl Tryz.underlying76 (by kernel_rfl) g o len cap q r2 l2.length (4096 - r2) (l2.take k) rfl rfl cur t HG2.out hrange (by rw [hlt, hk.out]) (by omega) ?_
    intro w3 hg3 hf3
    rw [hlt]
    have hf3' : Fr (· = g) wc w3 := (Fr.refl _ _).drew.trans hf3 (fun _ _ h => h)
    have HO3 := Lib.hid (hf3'.blk HO2.out (fun h => hd.d1 h.symm))
    have c0 : w3.cell? ⟨bb, 0, none⟩ = some (.slice (some ⟨q, 0, none⟩) 4096 4096) := HO3.out.cell 0
    have c2 : w3.cell? ⟨bb, 2, none⟩ = some (.int .i64 r2) := HO3.out.cell 2
    have f2 : w3.frozen? ⟨bb, 2, none⟩ = false := HO3.out.frozen 2
    have c5 : w3.cell? ⟨bb, 5, none⟩ = some (.int .i64 lb2) := HO3.out.cell 5
    have f5 : w3.frozen? ⟨bb, 5, none⟩ = false := HO3.out.frozen 5
    have c6 : w3.cell? ⟨bb, 6, none⟩ = some (.int .i64 lr2) := HO3.out.cell 6
    have f6 : w3.frozen? ⟨bb, 6, none⟩ = false := HO3.out.frozen 6
    obtain ⟨k', rfl⟩ : ∃ k', k = k' + 1 := ⟨k - 1, by omega⟩
    have hbyte : ∃ x : Nat, x < 256 ∧ ∀ v, (w3.setCell ⟨bb, 2, none⟩ v).cell? ⟨q, r2 + k', none⟩ = some (.int .u8 x) := by
      have hl : k' < l2.length := by omega
      refine ⟨(l2[k']).toNat, UInt8.toNat_lt _, fun v => ?_⟩
      have hb : Blk (w3.setCell ⟨bb, 2, none⟩ v) q cells2 5 := (hf3'.blk HB2.out.buf (fun h => hd.d2 h.symm)).set_ne (fun h => hd.d5 h.symm) v
      have h1 : (w3.setCell ⟨bb, 2, none⟩ v).rangeAt q r2 (u8s l2) := hb.range (by simpa using HB2.out.got)
      exact h1 k' _ (by simp [u8s, hl])
    obtain ⟨x, hx, hbyte⟩ := hbyte
    have HG3 := Lib.hid hg3
    have HF3 := Lib.hid hf3'
    clear c3 hrange hlt hg3 hf3 hf3'
    go_upto_region 27 with fail
    go_region
    go_wp2
    go_ret2
    rw [HL.out]
    have h4 := (bufSet2 HO3.out (r2 + (k' + 1)))
    have hb4 : Fr (· = bb) w3 (((w3.setCell ⟨bb, 2, none⟩ (.int .i64 (r2 + (k' + 1) : Nat))).setCell ⟨bb, 5, none⟩ (.int .i64 x)).setCell ⟨bb, 6, none⟩ (.int .i64 (-1))) := (((Fr.refl (· = bb) _).setCell (fun _ => rfl) _).setCell (fun _ => rfl) _).setCell (fun _ => rfl) _
    have hf4 := HF3.out.trans2 hb4 (U := fun b => b = g ∨ b = bb) (fun _ h => .inl h) (fun _ h => .inr h)
    have hB := HB2.out
    have hdl : (l2 ++ rest D off2 lim).drop (k' + 1) = l2.drop (k' + 1) ++ rest D off2 lim := by rw [List.drop_append_of_le_length hk1]
    refine ⟨k' + 1, .nilIface, rfl, hk2, by rw [List.length_append]; omega, fun _ => Nat.succ_pos _, .inl rfl, fun h => ?_, ?_, ?_, ?_⟩
    · have := congrArg List.length h; rw [List.length_append] at this; simp only [List.length_nil] at this; omega
    · rw [List.take_append_of_le_length hk1]
      exact hb4.blk HG3.out hd.d1
    · rw [hdl]
      refine ⟨r2 + (k' + 1), _, e2, cells2, off2, l2.drop (k' + 1), ⟨⟨x, -1, bufSet6 (bufSet5 (bufSet2 HO3.out (r2 + (k' + 1))) x) (-1)⟩, ?_, hB.size, by simp; omega, hu42, ?_, ?_, ?_, hB.err⟩, rfl⟩
      · exact hf4.blk hB.buf (by rintro (h | h); exact hd.d2 h.symm; exact hd.d5 h.symm)
      · have := congrArg (List.drop (k' + 1)) hB.got
        rw [List.drop_take, List.drop_drop] at this
        rw [List.length_drop, this]
        simp [u8s, List.map_drop]
      · exact hf4.blk hB.part (by rintro (h | h); exact hd.d3 h.symm; exact hd.d6 h.symm)
      · exact hf4.blk hB.text (by rintro (h | h); exact hd.d4 h.symm; exact hd.d7 h.symm)
    · have hfin : Fr (fun b => b = g ∨ b = bb ∨ b = q ∨ b = s) w _ := (HF2.out.trans2 hf4 (fun _ h => h) (by
        rintro _ (h | h)
        · exact .inl h
        · exact .inr (.inl h))).drew
      exact hfin
end Go.Proofs.Zip
