/- A part of a proof over the given program: LawC. Nothing is assumed here. -/
import Derived.Test.YtidmhfhfcoljeaaGreatDoorZQ
import Derived.Test.YtidmhfhfcoljeaaGreatDoorZB
namespace Go.Proofs.Zip
open Go Go.RowKit
theorem flatMap_set {es : List E} {k : Nat} (hk : k < es.length) {e' : E} {i : Nat} {x : Value} (hi : i < 15) (he : e'.cells = es[k].cells.set i x) : rows (es.set k e') = (rows es).set (k * 15 + i) x := by
  induction es generalizing k with
  | nil => simp at hk
  | cons y es ih =>
    cases k with
    | zero =>
      have h1 : rows (e' :: es) = e'.cells ++ rows es := by simp [rows]
      have h2 : rows (y :: es) = y.cells ++ rows es := by simp [rows]
      simp only [List.set_cons_zero]
      rw [h1, h2, Nat.zero_mul, Nat.zero_add, List.set_append_left _ _ (by simpa using hi), he]
      rfl
    | succ k =>
      have hk' : k < es.length := by simpa using hk
      have h1 : rows (y :: es.set k e') = y.cells ++ rows (es.set k e') := by simp [rows]
      have h2 : rows (y :: es) = y.cells ++ rows es := by simp [rows]
      have h15 : y.cells.length = 15 := rfl
      simp only [List.set_cons_succ]
      rw [h1, h2, ih hk' (by simpa using he), List.set_append_right _ _ (by rw [h15]; omega), h15]
      congr 2
      omega
/-- A row of entries that the call owns, at the k-th one: where it lies, and how a field of it is stored. -/
theorem ownRows_at {w : World} {base : Nat} {T : TypeId} {u : Value} {es : List E} {k : Nat} (h : w.ownsRow base T 15 u es.length (rows es)) (hk : k < es.length) :
    ∃ g cap, u = .slice (some ⟨g, 0, none⟩) es.length cap ∧ base ≤ g ∧ g < w.heap.size ∧ (∀ i, w.frozen? ⟨g, i, none⟩ = false) ∧ w.rangeAt g (k * 15) es[k].cells ∧
      ∀ (i : Nat) (x : Value) (e' : E), i < 15 → e'.cells = es[k].cells.set i x → (w.setCell ⟨g, k * 15 + i, none⟩ x).ownsRow base T 15 u (es.set k e').length (rows (es.set k e')) := by
  have hli := isList_own h
  obtain ⟨hl, ho⟩ := h
  rcases ho with ⟨_, h0⟩ | ⟨g, cap, cur, rfl, hg, hh, hc, hm, hsz, htk⟩
  · omega
  · have hb : Blk w g cur T := hh
    refine ⟨g, cap, rfl, hg, hb.lt, hb.frozen, ?_, ?_⟩
    · obtain ⟨b, off, cap', hv, _, hr⟩ := hli.at hk
      cases hv
      simpa using hr
    · intro i x e' hi he
      refine ⟨by rw [length_rows], .inr ⟨g, cap, cur.setIfInBounds (k * 15 + i) x, by rw [List.length_set], hg, hb.set _ _, by rw [List.length_set]; exact hc, hm, by rw [Array.size_setIfInBounds]; exact hsz, ?_⟩⟩
      rw [flatMap_set hk hi he, ← htk, List.length_set, Array.toList_setIfInBounds, List.take_set]
/-- The archive of a good list, as it is called. -/
theorem archive_good {es : List E} {c : List UInt8} (hg : goodB es c = true) (v : Value) (w : World) (hv : IsList w v es) : Calls Tryz.prog 12 #[v, .string (B c)] w fun r w' => r = .returned (.string (B (archiveL es c))) ∧ Below w.heap.size w w' := by
  have hgp := good_parts hg
  have hfl := filesL_ok hgp.1
  have hdl := dirL_ok hgp.1 0
  exact archive_any es c v w hv (by omega) (fun x hx => by
    have := entryOk_small (List.all_eq_true.1 hgp.1 x hx)
    exact ⟨this.1, by omega⟩) (by omega) (by omega) (by omega)
/-- The content of a file of a good archive, of which the flags tell no descriptor. -/
theorem content_simple {es : List E} {c : List UInt8} {N0 kk : Nat} {E0 : Errs} {w : World} {e : E} (hE : Env w N0 E0) (hg : goodB es c = true) (hk : kk < es.length) (he : es[kk] = e) (hp : e.hdr.packed = (e.data.length : Int)) (hs : (e.data.length : Int) ≤ e.hdr.size) (hm : e.hdr.method = 0 → simpleB e.hdr = true) :
    Calls Tryz.prog 27 #[.string (B (archiveL es c)), .int .i64 kk] w (ContentPost e.hdr e.data w) := by
  subst he
  have hok : entryOk es[kk] = true := List.all_eq_true.1 (good_parts hg).1 _ (List.getElem_mem hk)
  simp only [entryOk, Bool.and_eq_true] at hok
  exact content_good hE hg (good_lay hg) (.inl rfl) hk fun hm0 _ => ⟨hp, hs, simple_bit (HOk.of hok.1).flags (hm hm0)⟩
theorem slash_name {l : List UInt8} (h : 0 < l.length) : slash l = (l[l.length - 1]'(by omega) == 47) := by rw [slash_eq, endsSlash_eq h]
/-- The last byte of a text. -/
theorem run_last (l : List UInt8) (h : 0 < l.length) (w : World) : (Instr.index 9 (.string (B l)) (.int .i64 ((l.length : Int) - 1))).run Tryz.prog w = .ok (.int .u8 ((l[l.length - 1]'(by omega)).toNat : Int)) w := by
  rw [run_index_string w 9 (B l) .i64 _ Tryz.underlying9]
  have e : ((l.length : Int) - 1).toNat = l.length - 1 := by omega
  rw [dif_pos ⟨by omega, by rw [size_B]; omega⟩]
  simp only [get_B, e]
/-- '1 << bit', a byte. -/
theorem shl_bit (b : Int) (h0 : 0 ≤ b) (h7 : b ≤ 7) : ∃ v : Nat, v < 256 ∧ v ≠ 0 ∧ ∀ w, (binOp .shl 5 (.int .u8 1) (.int .i64 b)).run Tryz.prog w = .ok (.int .u8 (v : Nat)) w := by
  obtain ⟨n, rfl⟩ := Int.eq_ofNat_of_zero_le h0
  match n, h7 with
  | 0, _ => exact ⟨1, by decide, by decide, fun w => by kernel_rfl⟩
  | 1, _ => exact ⟨2, by decide, by decide, fun w => by kernel_rfl⟩
  | 2, _ => exact ⟨4, by decide, by decide, fun w => by kernel_rfl⟩
  | 3, _ => exact ⟨8, by decide, by decide, fun w => by kernel_rfl⟩
  | 4, _ => exact ⟨16, by decide, by decide, fun w => by kernel_rfl⟩
  | 5, _ => exact ⟨32, by decide, by decide, fun w => by kernel_rfl⟩
  | 6, _ => exact ⟨64, by decide, by decide, fun w => by kernel_rfl⟩
  | 7, _ => exact ⟨128, by decide, by decide, fun w => by kernel_rfl⟩
  | n + 8, h => omega
theorem length_turnedL {l : List UInt8} {a b : Nat} (h : a < l.length) : (turnedL l a b).length = l.length := by
  simp [turnedL]; omega
theorem crc_turnedL {l : List UInt8} {a b : Nat} (h : a < l.length) (hb : b < 256) (h0 : b ≠ 0) : crc (turnedL l a b) ≠ crc l := by
  have e : l = l.take a ++ l[a] :: l.drop (a + 1) := by rw [← List.drop_eq_getElem_cons h, List.take_append_drop]
  have hx : turnedL l a b = l.take a ++ (l[a] ^^^ UInt8.ofNat b) :: l.drop (a + 1) := by simp [turnedL, List.getElem?_eq_getElem h]
  rw [hx]
  conv => rhs; rw [e]
  refine crc_turned _ _ _ _ fun hh => ?_
  have h2 := congrArg UInt8.toNat hh
  rw [UInt8.toNat_xor] at h2
  have h3 : l[a].toNat ^^^ (UInt8.ofNat b).toNat = l[a].toNat ^^^ 0 := by rw [h2, Nat.xor_zero]
  have h4 := xor_left_inj h3
  simp at h4
  omega
end Go.Proofs.Zip
