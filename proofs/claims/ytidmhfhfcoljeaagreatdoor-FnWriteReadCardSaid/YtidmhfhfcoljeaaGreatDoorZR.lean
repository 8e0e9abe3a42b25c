/- A part of a proof over the given program: RowA, RowB, Hdr, RowW. Nothing is assumed here. -/
import Derived.Test.YtidmhfhfcoljeaaGreatDoorZQ
import Derived.Test.YtidmhfhfcoljeaaGreatDoorRows
import Derived.Test.YtidmhfhfcoljeaaGreatDoorCards
import Derived.Test.YtidmhfhfcoljeaaGreatDoorTie
import Derived.ProofKit
import Derived.OpenShut
import Derived.LaidMore
import Derived.Lay
import Derived.OpenVars
import Derived.SevenTiedAt
import Derived.Stop.Joined
import Derived.Stop.LaidErr
import Derived.Lib.LaidU8
import Derived.Deep.Slices
import Derived.Test.YtidmhfhfcoljeaaGreatDoorShelf
import Derived.KernelRfl
namespace Go.Proofs.YtidmhfhfcoljeaaGreatDoor
open Go Go.ChangeShapes Go.WideShapes Go.ChangeAt Go.RowKit Go.Proofs.Zip Go.Deep
theorem own : ownKnob Tryz.prog.godebug = none := by kernel_rfl
theorem laidOut : laidOutB Tryz.prog = true := by kernel_rfl
theorem cellsEnt : Tryz.prog.cellsOf 38 = 15 := by kernel_rfl
theorem cellsHdr : Tryz.prog.cellsOf 36 = 14 := by kernel_rfl
theorem cellsStr : Tryz.prog.cellsOf 9 = 1 := by kernel_rfl
theorem cellsBool : Tryz.prog.cellsOf 4 = 1 := by kernel_rfl
theorem cellsInt : Tryz.prog.cellsOf 3 = 1 := by kernel_rfl
section
variable {H : Type} {enc : TypeId × Value → H} {w : World} {base : Nat} {spare : Nat → Bool} {held : Bool}
/-- A cell that reads as a string, a bool, an int. -/
theorem rd_str {fuel : Nat} {c : Value} {x : DataW H × List MemPlace} (h : DataW.trod enc Tryz.prog w base spare held fuel 9 [c] = some x) : ∃ l, c = .string (B l) ∧ l.length ≤ maxLen := by
  obtain ⟨s, h1, _, h3⟩ := DataW.trod_string Tryz.underlying9 h
  have e : s.data.toList.length = s.size := by rw [Array.length_toList]; rfl
  exact ⟨s.data.toList, by rw [← eq_B]; exact (List.cons.inj h1).1, by rw [e]; exact h3⟩
theorem rd_bool {fuel : Nat} {c : Value} {x : DataW H × List MemPlace} (h : DataW.trod enc Tryz.prog w base spare held fuel 4 [c] = some x) : ∃ b, c = .bool b := by
  obtain ⟨s, h1, _⟩ := DataW.trod_bool Tryz.underlying4 h
  exact ⟨s, (List.cons.inj h1).1⟩
theorem rd_int {fuel : Nat} {c : Value} {x : DataW H × List MemPlace} (h : DataW.trod enc Tryz.prog w base spare held fuel 3 [c] = some x) : ∃ n, c = .int .i64 n := by
  obtain ⟨s, h1, _⟩ := DataW.trod_int Tryz.underlying3 h
  exact ⟨s, (List.cons.inj h1).1⟩
theorem fld {fs : Array Field} {xs : List (DataW H × List MemPlace)} {cs : List Value} {n : Nat} (hf : ∀ (i : Nat) (f : Field), fs[i]? = some f → DataW.trod enc Tryz.prog w base spare held n f.type ((cs.drop f.offset).take (Tryz.prog.cellsOf f.type)) = xs[i]?)
    (i t o k : Nat) (h : (fs[i]?).map (fun f => (f.type, f.offset)) = some (t, o)) (hc : Tryz.prog.cellsOf t = k) (hi : i < xs.length) : DataW.trod enc Tryz.prog w base spare held n t ((cs.drop o).take k) = some xs[i] := by
  obtain ⟨f, h1, h2⟩ := Option.map_eq_some_iff.1 h
  simp only [Prod.mk.injEq] at h2
  obtain ⟨rfl, rfl⟩ := h2
  rw [← List.getElem?_eq_getElem, ← hc]
  exact hf i f h1
set_option maxRecDepth 100000 in
/-- The cells of an entry that can be read. -/
theorem rd_ent {fuel : Nat} {cs : List Value} {x : DataW H × List MemPlace} (h : DataW.trod enc Tryz.prog w base spare held fuel 38 cs = some x) : ∃ e : E, cs = e.cells := by
  obtain ⟨xs, n, _, _, hl, hxl, hf⟩ := DataW.trod_struct Tryz.underlying38 h
  rw [cellsEnt] at hl
  match cs, hl with
  | [c0, c1, c2, c3, c4, c5, c6, c7, c8, c9, c10, c11, c12, c13, c14], _ =>
    have hxl2 : xs.length = 2 := hxl
    have g0' : DataW.trod enc Tryz.prog w base spare held n 36 [c0, c1, c2, c3, c4, c5, c6, c7, c8, c9, c10, c11, c12, c13] = some xs[0] := fld hf 0 36 0 14 rfl cellsHdr (by omega)
    have g1' : DataW.trod enc Tryz.prog w base spare held n 9 [c14] = some xs[1] := fld hf 1 9 14 1 rfl cellsStr (by omega)
    obtain ⟨l14, rfl, _⟩ := rd_str g1'
    clear g1' hf
    obtain ⟨ys, m, _, _, _, hyl, hf⟩ := DataW.trod_struct Tryz.underlying36 g0'
    have hyl2 : ys.length = 14 := hyl
    have f0 : DataW.trod enc Tryz.prog w base spare held m 9 [c0] = some ys[0] := fld hf 0 9 0 1 rfl cellsStr (by omega)
    have f1 : DataW.trod enc Tryz.prog w base spare held m 9 [c1] = some ys[1] := fld hf 1 9 1 1 rfl cellsStr (by omega)
    have f2 : DataW.trod enc Tryz.prog w base spare held m 9 [c2] = some ys[2] := fld hf 2 9 2 1 rfl cellsStr (by omega)
    have f3 : DataW.trod enc Tryz.prog w base spare held m 4 [c3] = some ys[3] := fld hf 3 4 3 1 rfl cellsBool (by omega)
    have f4 : DataW.trod enc Tryz.prog w base spare held m 3 [c4] = some ys[4] := fld hf 4 3 4 1 rfl cellsInt (by omega)
    have f5 : DataW.trod enc Tryz.prog w base spare held m 3 [c5] = some ys[5] := fld hf 5 3 5 1 rfl cellsInt (by omega)
    have f6 : DataW.trod enc Tryz.prog w base spare held m 3 [c6] = some ys[6] := fld hf 6 3 6 1 rfl cellsInt (by omega)
    have f7 : DataW.trod enc Tryz.prog w base spare held m 3 [c7] = some ys[7] := fld hf 7 3 7 1 rfl cellsInt (by omega)
    have f8 : DataW.trod enc Tryz.prog w base spare held m 3 [c8] = some ys[8] := fld hf 8 3 8 1 rfl cellsInt (by omega)
    have f9 : DataW.trod enc Tryz.prog w base spare held m 3 [c9] = some ys[9] := fld hf 9 3 9 1 rfl cellsInt (by omega)
    have f10 : DataW.trod enc Tryz.prog w base spare held m 3 [c10] = some ys[10] := fld hf 10 3 10 1 rfl cellsInt (by omega)
    have f11 : DataW.trod enc Tryz.prog w base spare held m 3 [c11] = some ys[11] := fld hf 11 3 11 1 rfl cellsInt (by omega)
    have f12 : DataW.trod enc Tryz.prog w base spare held m 3 [c12] = some ys[12] := fld hf 12 3 12 1 rfl cellsInt (by omega)
    have f13 : DataW.trod enc Tryz.prog w base spare held m 3 [c13] = some ys[13] := fld hf 13 3 13 1 rfl cellsInt (by omega)
    obtain ⟨l0, rfl, _⟩ := rd_str (c := c0) f0
    obtain ⟨l1, rfl, _⟩ := rd_str (c := c1) f1
    obtain ⟨l2, rfl, _⟩ := rd_str (c := c2) f2
    obtain ⟨b3, rfl⟩ := rd_bool (c := c3) f3
    obtain ⟨n4, rfl⟩ := rd_int (c := c4) f4
    obtain ⟨n5, rfl⟩ := rd_int (c := c5) f5
    obtain ⟨n6, rfl⟩ := rd_int (c := c6) f6
    obtain ⟨n7, rfl⟩ := rd_int (c := c7) f7
    obtain ⟨n8, rfl⟩ := rd_int (c := c8) f8
    obtain ⟨n9, rfl⟩ := rd_int (c := c9) f9
    obtain ⟨n10, rfl⟩ := rd_int (c := c10) f10
    obtain ⟨n11, rfl⟩ := rd_int (c := c11) f11
    obtain ⟨n12, rfl⟩ := rd_int (c := c12) f12
    obtain ⟨n13, rfl⟩ := rd_int (c := c13) f13
    exact ⟨{ hdr := { name := l0, comment := l1, extra := l2, non := b3, creator := n4, reader := n5, flags := n6, method := n7, time := n8, date := n9, crc := n10, packed := n11, size := n12, ext := n13 }, data := l14 }, rfl⟩
/-- A value that reads as a list of entries. -/
theorem rd_list {v : Value} {d : DataW H} {p : List MemPlace} (h : DataW.Trod enc Tryz.prog w 0 spare held 22 v d p) (hv : ∃ a len cap, v = .slice a len cap) : ∃ es : List E, IsList w v es ∧ es.length ≤ 9223372036854775807 := by
  obtain ⟨fuel, hf⟩ := h
  have hvc : v.cells.toList = [v] := by obtain ⟨a0, len0, cap0, rfl⟩ := hv; rfl
  rw [hvc] at hf
  rcases open_slice Tryz.underlying22 hf with ⟨hcs, _⟩ | ⟨a, len, cap, m, n, D, Pl, hcs, hb, hl, hm, hmm, _, hx⟩
  · obtain rfl : v = .slice none 0 0 := by simpa using hcs
    exact ⟨[], ⟨none, 0, rfl, fun h => absurd rfl h⟩, by simp⟩
  · obtain rfl : v = .slice (some a) len cap := by simpa using hcs
    have hlm : len ≤ m := by rw [hmm]; split <;> omega
    have key : ∀ i, i < len → ∃ e : E, w.cells? 0 (a.add (i * 15)) 15 = some e.cells := fun i hi => by
      obtain ⟨cs', h1, h2⟩ := hx i (by omega)
      rw [cellsEnt] at h1
      obtain ⟨e, rfl⟩ := rd_ent h2
      exact ⟨e, h1⟩
    obtain ⟨F, hF⟩ := @choose_lt E ⟨e0⟩ len (fun i e => w.cells? 0 (a.add (i * 15)) 15 = some e.cells) key
    refine ⟨(List.range len).map F, ⟨some a, cap, by simp, fun hne => ?_⟩, by simp; unfold maxLen at hm; omega⟩
    have hpos : 0 < len := by
      rcases Nat.eq_zero_or_pos len with h0 | h0
      · subst h0; simp at hne
      · exact h0
    obtain ⟨ab, ao, asp⟩ := a
    have h0 := hF 0 hpos
    obtain ⟨_, _, hc0⟩ := World.cells?_some h0
    have hc00 := hc0 0 (by decide)
    have hasp : asp = none := by
      have : w.cell? ⟨ab, ao, asp⟩ = some (.string (B (F 0).hdr.name)) := by simpa [Addr.add] using hc00
      exact Go.Proofs.cell_spot this
    subst hasp
    have hlt : ab < w.heap.size := World.block_lt_of_cell? w ⟨ab, ao, none⟩ (u := .string (B (F 0).hdr.name)) (by simpa [Addr.add] using hc00)
    refine ⟨ab, ao, rfl, hlt, fun k e he => ?_⟩
    rw [List.getElem?_map] at he
    cases hk : (List.range len)[k]? with
    | none => rw [hk] at he; cases he
    | some k' =>
      rw [hk] at he
      obtain ⟨hk1, hk2⟩ := List.getElem?_eq_some_iff.1 hk
      simp at hk1 hk2
      subst hk2
      cases he
      obtain ⟨_, _, hck⟩ := World.cells?_some (hF k hk1)
      intro j u hj
      have hj15 : j < 15 := (List.getElem?_eq_some_iff.1 hj).1
      have := hck j hj15
      rw [hj, add_at, add_at] at this
      exact this
end
end Go.Proofs.YtidmhfhfcoljeaaGreatDoor
namespace Go.Proofs.YtidmhfhfcoljeaaGreatDoor
open Go Go.ChangeShapes Go.WideShapes Go.ChangeAt Go.RowKit Go.Proofs.Zip Go.Deep Go.Shelf
theorem nameErr : Tryz.prog.typeName? 3 180 = some "*errors.errorString" := by kernel_rfl
theorem cellsErr : Tryz.prog.cellsOf 182 = 1 := by kernel_rfl
theorem starErr : "*" ++ "errors.errorString" = "*errors.errorString" := by decide
theorem rowErr (u : TypeId) (h : Tryz.prog.typeName? 3 u = some "*errors.errorString") : u = 180 :=
  typeName_ptr_named (nm := "errors.errorString") (by rw [starErr]; kernel_rfl) (by kernel_rfl) (by decide) u (by rw [starErr]; exact h)
/-- The datum of an error's variable. -/
abbrev errD (text : List UInt8) : DataW Unit := .iface "*errors.errorString" (.ptr (.agg [.lit (.string text)]))
set_option maxRecDepth 100000 in
/-- An error's variable at the head of a list that is met. -/
theorem sent_head {n : String} {text : List UInt8} {r : List (String × DataW Unit)} {W : World} {g : Nat} (h : laidMet Tryz.prog ((n, errD text) :: r) W) (hg : Tryz.prog.globalNamed n = some g) (ht : (Tryz.prog.globals[g]?).map (·.type) = some 56) :
    ∃ (a : Addr) (s : ByteArray), SenL W W.heap.size g a ∧ W.cell? a = some (.string s) ∧ s.data.toList = text := by
  obtain ⟨ps, ⟨g0, t0, cs0, f0, p0, q0, hg0, ht0, hv0, hd0, _, e0⟩, _, hrows⟩ := h
  obtain rfl := Option.some.inj (hg.symm.trans hg0)
  obtain rfl := Option.some.inj (ht.symm.trans ht0)
  subst e0
  obtain ⟨l0⟩ := cs0
  have ok0 : ∀ u v, l0 = [.iface u v] → Value.okWide Tryz.prog W .any 0 u v := fun u v e => by
    subst e
    exact (hrows g 0 (by simp [MemPlace.row])).2 u v (by simpa using World.var?_cell hg0 hv0 0)
  obtain ⟨a0, s0, rfl, hc0, hs0, _, rfl⟩ := errorString_of_trod Tryz.underlying56 rowErr Tryz.underlying180 Tryz.underlying182 rfl rfl Tryz.underlying9 cellsErr cellsStr hd0 ok0
  obtain ⟨c0, t0, hb0⟩ := (hrows a0.block a0.off (by simp [MemPlace.row])).1
  have hcg : W.cell? ⟨g, 0, none⟩ = some (errv a0) := by simpa using World.var?_cell hg0 hv0 0
  have hgl := World.block_lt_of_cell? W ⟨g, 0, none⟩ hcg
  exact ⟨a0, s0, ⟨⟨hcg, hgl, c0, t0, hb0⟩, hgl, (Array.getElem?_eq_some_iff.1 hb0).1⟩, hc0, hs0⟩
theorem u8x : U8Extra Tryz.prog Tryz.lays260_ren := ⟨by kernel_rfl, by kernel_rfl, by kernel_rfl, by kernel_rfl, by kernel_rfl, by kernel_rfl, by kernel_rfl⟩
/-- What all rows list. -/
abbrev laidL : List (String × DataW Unit) := Rows.fnTruncatedRow.laid
theorem first_eq : (Rows.laid_unicode_utf8_first : DataW Unit) = Lib.firstData := by kernel_rfl
theorem accept_eq : (Rows.laid_unicode_utf8_acceptRanges : DataW Unit) = Lib.acceptData := by kernel_rfl
set_option maxRecDepth 100000 in
/-- What the list gives: the variables, as the walks read them. -/
theorem env_of {W : World} (h : laidMet Tryz.prog laidL W) : ∃ E0, Env W W.heap.size E0 := by
  have hu : Lib.Utf8Tabs 12 13 W :=
    utf8Tabs_of_reads Tryz.lays260 u8x (Lib.laidMet.reads h (by rw [← first_eq]; repeat (first | exact List.Mem.head _ | apply List.Mem.tail))) (Lib.laidMet.reads h (by rw [← accept_eq]; exact List.Mem.head _))
  have h1 := h.tail
  have h2 := h1.tail
  have h3 := h2.tail
  have h4 := h3.tail
  have h5 := h4.tail
  have h6 := h5.tail
  have h7 := h6.tail
  have h8 := h7.tail
  have h9 := h8.tail
  obtain ⟨aE, sE, iE, cE, tE⟩ := sent_head h2 (g := 5) (by kernel_rfl) (by kernel_rfl)
  obtain ⟨aU, sU, iU, cU, tU⟩ := sent_head h3 (g := 4) (by kernel_rfl) (by kernel_rfl)
  obtain ⟨aF, sF, iF, cF, tF⟩ := sent_head h6 (g := 1) (by kernel_rfl) (by kernel_rfl)
  obtain ⟨aA, sA, iA, cA, tA⟩ := sent_head h7 (g := 2) (by kernel_rfl) (by kernel_rfl)
  obtain ⟨aC, sC, iC, cC, tC⟩ := sent_head h8 (g := 3) (by kernel_rfl) (by kernel_rfl)
  obtain ⟨aI, sI, iI, cI, tI⟩ := sent_head h9 (g := 0) (by kernel_rfl) (by kernel_rfl)
  have ne : ∀ {a b : Addr} {s t : ByteArray} {l m : List UInt8}, W.cell? a = some (.string s) → W.cell? b = some (.string t) → s.data.toList = l → t.data.toList = m → l.length ≠ m.length → a ≠ b := by
    rintro a b s t l m h1 h2 rfl rfl h3 rfl
    rw [h1] at h2
    simp at h2
    exact h3 (by rw [h2])
  refine ⟨{ fmt := aF, eof := aE, alg := aA, chk := aC, unx := aU, ins := aI }, iF, iE, iA, iC, iU, iI, hu, ?_, ?_, Nat.le_refl _, ?_⟩
  · exact Nat.lt_of_le_of_lt (Nat.le_refl _) (World.block_lt_of_cell? W ⟨12, 0, none⟩ (hu.1 0 (by decide)))
  · exact Nat.lt_of_le_of_lt (Nat.le_refl _) (World.block_lt_of_cell? W ⟨13, 2 * 0, none⟩ (hu.2 0 (by decide)).1)
  · exact ⟨ne cF cE tF tE (by decide), ne cF cA tF tA (by decide), ne cF cC tF tC (by decide), ne cF cU tF tU (by decide), ne cF cI tF tI (by decide), ne cE cA tE tA (by decide), ne cE cC tE tC (by decide), ne cE cU tE tU (by decide), ne cE cI tE tI (by decide), ne cA cC tA tC (by decide), ne cA cU tA tU (by decide), ne cC cU tC tU (by decide), ne cU cI tU tI (by decide)⟩
/-- The four named variables. -/
theorem four_of_vars {H : Type} {enc : TypeId × Value → H} {P : Program} {W : World} {sp : Nat → Bool} {n1 n2 n3 n4 : String} {gs : List (DataW H)} {ps : List MemPlace} (h : DataW.TrodVars enc P W sp [n1, n2, n3, n4] gs ps) : ∃ g1 g2 g3 g4, gs = [g1, g2, g3, g4] := by
  match gs, h with
  | [], h => exact h.elim
  | [_], h => (obtain ⟨_, _, _, _, _, _, _, _, _, _, h, _⟩ := h; exact h.elim)
  | [_, _], h => (obtain ⟨_, _, _, _, _, _, _, _, _, _, h, _⟩ := h; obtain ⟨_, _, _, _, _, _, _, _, _, _, h, _⟩ := h; exact h.elim)
  | [_, _, _], h => (obtain ⟨_, _, _, _, _, _, _, _, _, _, h, _⟩ := h; obtain ⟨_, _, _, _, _, _, _, _, _, _, h, _⟩ := h; obtain ⟨_, _, _, _, _, _, _, _, _, _, h, _⟩ := h; exact h.elim)
  | [g1, g2, g3, g4], _ => exact ⟨g1, g2, g3, g4, rfl⟩
  | _ :: _ :: _ :: _ :: _ :: _, h => (obtain ⟨_, _, _, _, _, _, _, _, _, _, h, _⟩ := h; obtain ⟨_, _, _, _, _, _, _, _, _, _, h, _⟩ := h; obtain ⟨_, _, _, _, _, _, _, _, _, _, h, _⟩ := h; obtain ⟨_, _, _, _, _, _, _, _, _, _, h, _⟩ := h; exact h.elim)
theorem varsOk : varsRowed Tryz.prog Rows.fnTruncatedSpec.vars = true := by kernel_rfl
set_option maxRecDepth 100000 in
theorem rd_text {H : Type} {enc : TypeId × Value → H} {W : World} {base : Nat} {spare : Nat → Bool} {held : Bool} {v : Value} {d : DataW H} {p : List MemPlace} (h : DataW.Trod enc Tryz.prog W 0 spare held 9 v d p) (hv : Value.okWide Tryz.prog W .any base 9 v) : ∃ l : List UInt8, v = .string (B l) ∧ l.length ≤ 9223372036854775807 := by
  obtain ⟨s, rfl, _, _, hs⟩ := Go.ChangeMaps.open_string Tryz.underlying9 hv h
  have e : s.data.toList.length = s.size := by rw [Array.length_toList]; rfl
  exact ⟨s.data.toList, by rw [← eq_B], by rw [e]; unfold maxLen at hs; omega⟩
end Go.Proofs.YtidmhfhfcoljeaaGreatDoor
namespace Go.Proofs.YtidmhfhfcoljeaaGreatDoor
open Go
/-- The program's header, letter by letter. -/
def headN : List Nat := [104, 97, 114, 110, 101, 115, 115, 32, 57, 99, 48, 100, 101, 50, 48, 98, 49, 52, 101, 101, 97, 51, 55, 57, 49, 56, 48, 100, 98, 56, 57, 56, 56, 97, 56, 102, 102, 52, 100, 57, 49, 102, 54, 55, 99, 50, 49, 102, 102, 101, 53, 57, 55, 57, 53, 49, 99, 98, 50, 100, 97, 101, 55, 101, 57, 54, 53, 53, 51, 48, 51, 57, 32, 99, 117, 116, 32, 97, 116, 32, 108, 111, 111, 112, 46, 101, 120, 97, 109, 112, 108, 101, 47, 112, 117, 98, 45, 122, 105, 112, 97, 114, 99, 104, 105, 118, 101, 115, 47, 108, 97, 119, 115, 46, 70, 110, 84, 114, 117, 110, 99, 97, 116, 101, 100, 32, 108, 111, 111, 112, 46, 101, 120, 97, 109, 112, 108, 101, 47, 112, 117, 98, 45, 122, 105, 112, 97, 114, 99, 104, 105, 118, 101, 115, 47, 108, 97, 119, 115, 46, 70, 110, 69, 120, 97, 99, 116, 79, 102, 102, 115, 101, 116, 32, 108, 111, 111, 112, 46, 101, 120, 97, 109, 112, 108, 101, 47, 112, 117, 98, 45, 122, 105, 112, 97, 114, 99, 104, 105, 118, 101, 115, 47, 108, 97, 119, 115, 46, 70, 110, 69, 120, 97, 99, 116, 82, 97, 119, 32, 108, 111, 111, 112, 46, 101, 120, 97, 109, 112, 108, 101, 47, 112, 117, 98, 45, 122, 105, 112, 97, 114, 99, 104, 105, 118, 101, 115, 47, 108, 97, 119, 115, 46, 70, 110, 67, 111, 112, 121, 82, 101, 97, 100, 32, 108, 111, 111, 112, 46, 101, 120, 97, 109, 112, 108, 101, 47, 112, 117, 98, 45, 122, 105, 112, 97, 114, 99, 104, 105, 118, 101, 115, 47, 108, 97, 119, 115, 46, 70, 110, 87, 114, 105, 116, 101, 76, 111, 99, 97, 108, 32, 108, 111, 111, 112, 46, 101, 120, 97, 109, 112, 108, 101, 47, 112, 117, 98, 45, 122, 105, 112, 97, 114, 99, 104, 105, 118, 101, 115, 47, 108, 97, 119, 115, 46, 70, 110, 82, 97, 119, 82, 101, 97, 100, 32, 108, 111, 111, 112, 46, 101, 120, 97, 109, 112, 108, 101, 47, 112, 117, 98, 45, 122, 105, 112, 97, 114, 99, 104, 105, 118, 101, 115, 47, 108, 97, 119, 115, 46, 70, 110, 87, 114, 105, 116, 101, 82, 101, 97, 100]
set_option maxRecDepth 100000 in
theorem head_eq : Tryz.prog.initOrder = String.ofList (headN.map Char.ofNat) := by kernel_rfl
theorem head_words : wordsSigns Tryz.prog.initOrder.toList = wordsSigns (headN.map Char.ofNat) := by rw [head_eq, String.toList_ofList]
/-- Its words, behind the sum. -/
def headW : List (List Nat) := [[99, 117, 116], [97, 116], [108, 111, 111, 112, 46, 101, 120, 97, 109, 112, 108, 101, 47, 112, 117, 98, 45, 122, 105, 112, 97, 114, 99, 104, 105, 118, 101, 115, 47, 108, 97, 119, 115, 46, 70, 110, 84, 114, 117, 110, 99, 97, 116, 101, 100], [108, 111, 111, 112, 46, 101, 120, 97, 109, 112, 108, 101, 47, 112, 117, 98, 45, 122, 105, 112, 97, 114, 99, 104, 105, 118, 101, 115, 47, 108, 97, 119, 115, 46, 70, 110, 69, 120, 97, 99, 116, 79, 102, 102, 115, 101, 116], [108, 111, 111, 112, 46, 101, 120, 97, 109, 112, 108, 101, 47, 112, 117, 98, 45, 122, 105, 112, 97, 114, 99, 104, 105, 118, 101, 115, 47, 108, 97, 119, 115, 46, 70, 110, 69, 120, 97, 99, 116, 82, 97, 119], [108, 111, 111, 112, 46, 101, 120, 97, 109, 112, 108, 101, 47, 112, 117, 98, 45, 122, 105, 112, 97, 114, 99, 104, 105, 118, 101, 115, 47, 108, 97, 119, 115, 46, 70, 110, 67, 111, 112, 121, 82, 101, 97, 100], [108, 111, 111, 112, 46, 101, 120, 97, 109, 112, 108, 101, 47, 112, 117, 98, 45, 122, 105, 112, 97, 114, 99, 104, 105, 118, 101, 115, 47, 108, 97, 119, 115, 46, 70, 110, 87, 114, 105, 116, 101, 76, 111, 99, 97, 108], [108, 111, 111, 112, 46, 101, 120, 97, 109, 112, 108, 101, 47, 112, 117, 98, 45, 122, 105, 112, 97, 114, 99, 104, 105, 118, 101, 115, 47, 108, 97, 119, 115, 46, 70, 110, 82, 97, 119, 82, 101, 97, 100], [108, 111, 111, 112, 46, 101, 120, 97, 109, 112, 108, 101, 47, 112, 117, 98, 45, 122, 105, 112, 97, 114, 99, 104, 105, 118, 101, 115, 47, 108, 97, 119, 115, 46, 70, 110, 87, 114, 105, 116, 101, 82, 101, 97, 100]]
set_option maxRecDepth 100000 in
theorem head_list : behindMainWord (wordsSigns Tryz.prog.initOrder.toList) = headW.map (List.map Char.ofNat) := by
  rw [head_words]
  kernel_rfl
set_option maxRecDepth 100000 in
theorem head_strip : stripLifts liftWords (headW.map (List.map Char.ofNat)) = ([], headW.map (List.map Char.ofNat)) := by kernel_rfl
set_option maxRecDepth 100000 in
theorem head_none : Tryz.prog.headLifts = [] := by
  unfold Program.headLifts
  rw [head_list, head_strip]
  kernel_rfl
set_option maxRecDepth 100000 in
theorem head_door : Tryz.prog.doorFits [] = true := by kernel_rfl
set_option maxRecDepth 100000 in
theorem head_later : Tryz.prog.laysLater = false := by kernel_rfl
set_option maxRecDepth 100000 in
theorem head_refl : Tryz.prog.bearsReflect = false := by kernel_rfl
theorem mayEnter_of {P : Program} {c : List Char} {r : List (List Char)} (h1 : behindMainWord (wordsSigns P.initOrder.toList) = c :: r) (h2 : stripLifts liftWords (c :: r) = ([], c :: r)) (h3 : P.doorFits [] = true) (h4 : P.laysLater = false) (h5 : P.bearsReflect = false) (h6 : (some c == some "cut".toList) = true) : P.mayEnter = true := by
  unfold Program.mayEnter
  rw [h1]
  simp only [h2, h3, h4, h5, List.head?_cons, h6, List.contains_nil, Bool.not_false, Bool.or_true, Bool.and_true]
theorem make_of {P : Program} {c : List Char} {r : List (List Char)} (h1 : behindMainWord (wordsSigns P.initOrder.toList) = c :: r) (h6 : (c == "cut".toList) = true) (h7 : (c == "gc".toList || c == "spec".toList) = false) : P.make = some .cut := by
  unfold Program.make
  rw [h1]
  simp only [h6, h7, Bool.true_or, if_true]
  simp
theorem head_cons : headW.map (List.map Char.ofNat) = (headW.headD []).map Char.ofNat :: headW.tail.map (List.map Char.ofNat) := by kernel_rfl
set_option maxRecDepth 100000 in
theorem head_enter : Tryz.prog.mayEnter = true := mayEnter_of (head_list.trans head_cons) (by rw [← head_cons]; exact head_strip) head_door head_later head_refl (by kernel_rfl)
theorem head_make : Tryz.prog.make = some .cut := make_of (head_list.trans head_cons) (by kernel_rfl) (by kernel_rfl)
theorem liftsFinal_of {P : Program} {c : List Char} {r : List (List Char)} (h1 : behindMainWord (wordsSigns P.initOrder.toList) = c :: r) (h2 : P.headLifts = []) (h6 : (some c == some "carried".toList) = false) : P.liftsFinal = false := by
  unfold Program.liftsFinal
  rw [h1]
  simp only [List.head?_cons, h6, h2, Bool.false_and, Bool.false_or, List.contains_nil]
theorem head_final : Tryz.prog.liftsFinal = false := liftsFinal_of (head_list.trans head_cons) head_none (by kernel_rfl)
/-- All its words. -/
def headA : List (List Nat) := [[104, 97, 114, 110, 101, 115, 115], [57, 99, 48, 100, 101, 50, 48, 98, 49, 52, 101, 101, 97, 51, 55, 57, 49, 56, 48, 100, 98, 56, 57, 56, 56, 97, 56, 102, 102, 52, 100, 57, 49, 102, 54, 55, 99, 50, 49, 102, 102, 101, 53, 57, 55, 57, 53, 49, 99, 98, 50, 100, 97, 101, 55, 101, 57, 54, 53, 53, 51, 48, 51, 57], [99, 117, 116], [97, 116], [108, 111, 111, 112, 46, 101, 120, 97, 109, 112, 108, 101, 47, 112, 117, 98, 45, 122, 105, 112, 97, 114, 99, 104, 105, 118, 101, 115, 47, 108, 97, 119, 115, 46, 70, 110, 84, 114, 117, 110, 99, 97, 116, 101, 100], [108, 111, 111, 112, 46, 101, 120, 97, 109, 112, 108, 101, 47, 112, 117, 98, 45, 122, 105, 112, 97, 114, 99, 104, 105, 118, 101, 115, 47, 108, 97, 119, 115, 46, 70, 110, 69, 120, 97, 99, 116, 79, 102, 102, 115, 101, 116], [108, 111, 111, 112, 46, 101, 120, 97, 109, 112, 108, 101, 47, 112, 117, 98, 45, 122, 105, 112, 97, 114, 99, 104, 105, 118, 101, 115, 47, 108, 97, 119, 115, 46, 70, 110, 69, 120, 97, 99, 116, 82, 97, 119], [108, 111, 111, 112, 46, 101, 120, 97, 109, 112, 108, 101, 47, 112, 117, 98, 45, 122, 105, 112, 97, 114, 99, 104, 105, 118, 101, 115, 47, 108, 97, 119, 115, 46, 70, 110, 67, 111, 112, 121, 82, 101, 97, 100], [108, 111, 111, 112, 46, 101, 120, 97, 109, 112, 108, 101, 47, 112, 117, 98, 45, 122, 105, 112, 97, 114, 99, 104, 105, 118, 101, 115, 47, 108, 97, 119, 115, 46, 70, 110, 87, 114, 105, 116, 101, 76, 111, 99, 97, 108], [108, 111, 111, 112, 46, 101, 120, 97, 109, 112, 108, 101, 47, 112, 117, 98, 45, 122, 105, 112, 97, 114, 99, 104, 105, 118, 101, 115, 47, 108, 97, 119, 115, 46, 70, 110, 82, 97, 119, 82, 101, 97, 100], [108, 111, 111, 112, 46, 101, 120, 97, 109, 112, 108, 101, 47, 112, 117, 98, 45, 122, 105, 112, 97, 114, 99, 104, 105, 118, 101, 115, 47, 108, 97, 119, 115, 46, 70, 110, 87, 114, 105, 116, 101, 82, 101, 97, 100]]
set_option maxRecDepth 100000 in
theorem head_all : wordsSigns Tryz.prog.initOrder.toList = headA.map (List.map Char.ofNat) := by
  rw [head_words]
  kernel_rfl
theorem mainIs_of {P : Program} {h s : List Char} {r : List (List Char)} (h1 : wordsSigns P.initOrder.toList = h :: s :: r) (h2 : isSumSigns s = true) (h3 : (h == "harness".toList) = true) : P.mainIs = some (true, s) := by
  unfold Program.mainIs
  rw [h1]
  simp only [h2, h3, Bool.not_true, if_true]
  simp
set_option maxRecDepth 100000 in
theorem head_main : Tryz.prog.mainIs = some (true, "9c0de20b14eea379180db8988a8ff4d91f67c21ffe597951cb2dae7e96553039".toList) := by
  have e : "9c0de20b14eea379180db8988a8ff4d91f67c21ffe597951cb2dae7e96553039".toList = ((headA.tail).headD []).map Char.ofNat := by kernel_rfl
  rw [e]
  exact mainIs_of (h := (headA.headD []).map Char.ofNat) (r := headA.tail.tail.map (List.map Char.ofNat)) (head_all.trans (by kernel_rfl)) (by kernel_rfl) (by kernel_rfl)
end Go.Proofs.YtidmhfhfcoljeaaGreatDoor
namespace Go.Proofs.YtidmhfhfcoljeaaGreatDoor
open Go Go.ChangeShapes Go.WideShapes Go.ChangeAt Go.RowKit Go.Proofs.Zip Go.Deep
theorem okWide_cap {P : Program} {w : World} {r : Reach} {base : Nat} {t e : TypeId} {v : Value} (ht : P.underlying t = some (.slice e)) (h : Value.okWide P w r base t v) : ∀ a n cap, v = .slice a n cap → n ≤ cap := by
  rintro a n cap rfl
  cases a with
  | some a =>
    simp only [Value.okWide, ht, Cell.okWide, Cell.ok] at h
    exact h.1
  | none =>
    simp only [Value.okWide, ht, Cell.okWide] at h
    cases n <;> cases cap <;> simp_all [Cell.ok]
theorem okWide_nil {P : Program} {w : World} {r : Reach} {base : Nat} {t e : TypeId} {v : Value} (ht : P.underlying t = some (.slice e)) (h : Value.okWide P w r base t v) : ∀ n cap, v = .slice none n cap → cap = 0 := by
  rintro n cap rfl
  simp only [Value.okWide, ht, Cell.okWide] at h
  cases n <;> cases cap <;> simp_all [Cell.ok]
end Go.Proofs.YtidmhfhfcoljeaaGreatDoor
