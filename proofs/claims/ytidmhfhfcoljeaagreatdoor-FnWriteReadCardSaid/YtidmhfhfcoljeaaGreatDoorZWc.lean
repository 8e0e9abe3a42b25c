/- A part of a proof over the given program: Pc, Rs, Rw, Iw. Nothing is assumed here. -/
import Derived.Test.YtidmhfhfcoljeaaGreatDoorZU
import Derived.Test.YtidmhfhfcoljeaaGreatDoorZQ
import Derived.Test.YtidmhfhfcoljeaaGreatDoorZWb
import Derived.Test.YtidmhfhfcoljeaaGreatDoorZWa
namespace Go.Proofs.Zip
open Go Go.RowKit
/-! Archives of pieces: what a Writer writes. Plain. -/
/-- A file as it lies: the header ahead of it, its bytes, what stands behind them; and its header in the directory. -/
structure Pc where
  loc : H
  data : List UInt8
  tail : List UInt8
  hdr : H
def Pc.text (p : Pc) : List UInt8 := localL p.loc ++ (p.data ++ p.tail)
def pcsL (ps : List Pc) : List UInt8 := ps.flatMap Pc.text
/-- The headers with the places of the local ones. -/
def hsP : List Pc → Nat → List (H × Nat)
  | [], _ => []
  | p :: ps, a => (p.hdr, a) :: hsP ps (a + p.text.length)
theorem pcsL_cons (p : Pc) (ps : List Pc) : pcsL (p :: ps) = p.text ++ pcsL ps := by simp [pcsL]
theorem pcsL_append (a b : List Pc) : pcsL (a ++ b) = pcsL a ++ pcsL b := by simp [pcsL]
theorem hsP_length (ps : List Pc) : ∀ a, (hsP ps a).length = ps.length := by
  induction ps with
  | nil => intro a; rfl
  | cons p ps ih => intro a; simp [hsP, ih]
theorem hsP_append (xs ys : List Pc) : ∀ a, hsP (xs ++ ys) a = hsP xs a ++ hsP ys (a + (pcsL xs).length) := by
  induction xs with
  | nil => intro a; simp [hsP, pcsL]
  | cons p xs ih =>
    intro a
    simp only [List.cons_append, hsP, pcsL_cons, List.length_append]
    rw [ih]
    simp [Nat.add_assoc]
theorem hsP_get (ps : List Pc) : ∀ (a k : Nat) (h : k < ps.length), (hsP ps a)[k]? = some (ps[k].hdr, a + (pcsL (ps.take k)).length) := by
  induction ps with
  | nil => intro a k h; simp at h
  | cons p ps ih =>
    intro a k h
    cases k with
    | zero => simp [hsP, pcsL]
    | succ k =>
      have hk : k < ps.length := by simpa using h
      simp only [hsP, List.getElem?_cons_succ, List.getElem_cons_succ, List.take_succ_cons, pcsL_cons]
      rw [ih _ k hk]
      simp only [List.length_append]
      congr 2
      omega
theorem pcsL_le (ps : List Pc) (k : Nat) : (pcsL (ps.take k)).length ≤ (pcsL ps).length := by
  conv => rhs; rw [← List.take_append_drop k ps]
  rw [pcsL_append, List.length_append]; omega
theorem pcs_drop (ps : List Pc) (k : Nat) (h : k < ps.length) : (pcsL ps).drop (pcsL (ps.take k)).length = localL ps[k].loc ++ (ps[k].data ++ (ps[k].tail ++ pcsL (ps.drop (k + 1)))) := by
  have e : pcsL ps = pcsL (ps.take k) ++ pcsL (ps.drop k) := by rw [← pcsL_append, List.take_append_drop]
  rw [e, List.drop_left, List.drop_eq_getElem_cons h, pcsL_cons, Pc.text, List.append_assoc, List.append_assoc]
/-- A piece that the format can hold. -/
structure PcOk (p : Pc) : Prop where
  hdr : headerOk p.hdr = true
  ln : p.loc.name.length ≤ 60000
  lx : p.loc.extra.length ≤ 60000
  data : p.data.length ≤ 1048576
  tail : p.tail.length ≤ 16
  packed : p.hdr.packed = (p.data.length : Int)
theorem PcOk.text {p : Pc} (h : PcOk p) : p.text.length ≤ 1168622 := by
  rw [Pc.text, List.length_append, List.length_append, length_localL]
  have := h.ln
  have := h.lx
  have := h.data
  have := h.tail
  omega
theorem pcsL_ok {ps : List Pc} (h : ∀ p ∈ ps, PcOk p) : (pcsL ps).length ≤ ps.length * 1168622 := by
  induction ps with
  | nil => simp [pcsL]
  | cons p ps ih =>
    have := ih fun q hq => h q (List.mem_cons_of_mem _ hq)
    have := (h p (List.mem_cons_self ..)).text
    rw [pcsL_cons, List.length_append, List.length_cons, Nat.add_mul]; omega
theorem catP_ok {ps : List Pc} (h : ∀ p ∈ ps, PcOk p) : ∀ a, (catL (hsP ps a)).length ≤ ps.length * 180046 := by
  induction ps with
  | nil => intro a; simp [hsP, catL]
  | cons p ps ih =>
    intro a
    have := ih (fun q hq => h q (List.mem_cons_of_mem _ hq)) (a + p.text.length)
    have h1 := headerOk_small (h p (List.mem_cons_self ..)).hdr
    rw [hsP, catL_cons, List.length_append, length_centralL, List.length_cons, Nat.add_mul]
    dsimp only
    omega
theorem hsP_ok {ps : List Pc} (h : ∀ p ∈ ps, PcOk p) : ∀ a : Nat, a + (pcsL ps).length ≤ 4294967294 → ∀ x ∈ hsP ps a, headerOk x.1 = true ∧ x.2 ≤ 4294967294 := by
  induction ps with
  | nil => intro a _ x hx; simp [hsP] at hx
  | cons p ps ih =>
    intro a ha x hx
    rw [pcsL_cons, List.length_append] at ha
    simp only [hsP, List.mem_cons] at hx
    rcases hx with rfl | hx
    · exact ⟨(h p (List.mem_cons_self ..)).hdr, by show a ≤ _; omega⟩
    · exact ih (fun q hq => h q (List.mem_cons_of_mem _ hq)) _ (by omega) x hx
/-- The archive of pieces. -/
def arcP (ps : List Pc) (c : List UInt8) : List UInt8 := pcsL ps ++ (catL (hsP ps 0) ++ endL ps.length (catL (hsP ps 0)).length (pcsL ps).length c)
/-- Pieces that an archive can hold, which has one end. -/
structure PcsOk (ps : List Pc) (c : List UInt8) : Prop where
  ok : ∀ p ∈ ps, PcOk p
  len : ps.length ≤ 1000
  cl : c.length ≤ 65535
  once : endsL (arcP ps c) = 1
theorem PcsOk.lay {ps : List Pc} {c : List UInt8} (h : PcsOk ps c) : Lay (arcP ps c) [] (pcsL ps) (catL (hsP ps 0)) c [] ps.length := by
  have h1 := pcsL_ok h.ok
  have h2 := catP_ok h.ok 0
  have h3 := h.len
  exact ⟨by simp [arcP], by omega, by omega, by omega, by simp, h.cl, by simp, h.once⟩
theorem PcsOk.arc {ps : List Pc} {c : List UInt8} (h : PcsOk ps c) :
    ∃ b k, ArcText (arcP ps c) b k 0 (hsP ps 0) ([] ++ (endL ps.length (catL (hsP ps 0)).length (pcsL ps).length c ++ [])) ∧ (arcP ps c).length - b + k = (pcsL ps).length + (catL (hsP ps 0)).length ∧ (hsP ps 0).length = n2 (arcP ps c) ((arcP ps c).length - b + k + 10) ∧
      ((arcP ps c).drop ((arcP ps c).length - b + k + 22)).take (n2 (arcP ps c) ((arcP ps c).length - b + k + 20)) = c := by
  have hL := h.lay
  have h1 := pcsL_ok h.ok
  have h3 := h.len
  obtain ⟨b, k, hA, hp⟩ := hL.arc (hsP ps 0) [] (.inl rfl) (by rw [List.append_nil]) (hsP_ok h.ok 0 (by omega)) (by rw [hsP_length]; omega) (stops_lay hL)
  refine ⟨b, k, hA, by rw [hp]; simp, ?_, ?_⟩
  · rw [hsP_length, hp, hL.n2 10 (by omega), hL.ebytes.f10]
  · rw [hp]; exact hL.comment
/-- It is read. -/
theorem read_pcs {N0 : Nat} {E0 : Errs} {ps : List Pc} {c : List UInt8} (w : World) (hE : Env w N0 E0) (h : PcsOk ps c) : Calls Tryz.prog 13 #[.string (B (arcP ps c))] w (IsOk c ((hsP ps 0).map toldOf) w) := by
  obtain ⟨b, k, hA, _, hc, hcm⟩ := h.arc
  have h := readOk_any _ b k N0 _ _ (hsP ps 0) E0 w hE hA hc
  rw [hcm] at h
  exact h
theorem pcLoc {ps : List Pc} {c : List UInt8} (h : PcsOk ps c) {k : Nat} (hk : k < ps.length) : FileLoc (arcP ps c) ((pcsL (ps.take k)).length) (30 + ps[k].loc.name.length + ps[k].loc.extra.length) ps[k].hdr := by
  have ho := h.ok _ (List.getElem_mem hk)
  have hh := HOk.of ho.hdr
  have h1 := pcsL_ok h.ok
  have h3 := h.len
  have hle := pcsL_le ps k
  have hd : (arcP ps c).drop (pcsL (ps.take k)).length = localL ps[k].loc ++ (ps[k].data ++ (ps[k].tail ++ (pcsL (ps.drop (k + 1)) ++ (catL (hsP ps 0) ++ endL ps.length (catL (hsP ps 0)).length (pcsL ps).length c)))) := by
    rw [arcP, List.drop_append_of_le_length hle, pcs_drop ps k hk]
    simp only [List.append_assoc]
  exact ⟨localAt_of _ _ _ _ ho.ln ho.lx hd, hh.name, by omega, hh.packed⟩
theorem pcText {ps : List Pc} {c : List UInt8} (k : Nat) (hk : k < ps.length) (hle : (pcsL (ps.take k)).length ≤ (pcsL ps).length) : (arcP ps c).drop ((pcsL (ps.take k)).length + (30 + ps[k].loc.name.length + ps[k].loc.extra.length)) = ps[k].data ++ (ps[k].tail ++ (pcsL (ps.drop (k + 1)) ++ (catL (hsP ps 0) ++ endL ps.length (catL (hsP ps 0)).length (pcsL ps).length c))) := by
  have hd : (arcP ps c).drop (pcsL (ps.take k)).length = localL ps[k].loc ++ (ps[k].data ++ (ps[k].tail ++ (pcsL (ps.drop (k + 1)) ++ (catL (hsP ps 0) ++ endL ps.length (catL (hsP ps 0)).length (pcsL ps).length c)))) := by
    rw [arcP, List.drop_append_of_le_length hle, pcs_drop ps k hk]
    simp only [List.append_assoc]
  rw [← List.drop_drop, hd, drop_len_append _ _ _ (length_localL _).symm]
theorem pcRaw {ps : List Pc} {c : List UInt8} (h : PcsOk ps c) {k : Nat} (hk : k < ps.length) : FileRaw (arcP ps c) ((pcsL (ps.take k)).length) (30 + ps[k].loc.name.length + ps[k].loc.extra.length) ps[k].hdr ps[k].data := by
  have ho := h.ok _ (List.getElem_mem hk)
  have h1 := pcsL_ok h.ok
  have h3 := h.len
  have hle := pcsL_le ps k
  have := ho.ln
  have := ho.lx
  have := ho.data
  exact ⟨pcLoc h hk, ho.packed, by omega, rest_of_drop _ _ _ _ (pcText k hk hle), by omega⟩
theorem offset_pcs {N0 : Nat} {E0 : Errs} {ps : List Pc} {c : List UInt8} {k : Nat} (w : World) (hE : Env w N0 E0) (h : PcsOk ps c) (hk : k < ps.length) :
    Calls Tryz.prog 15 #[.string (B (arcP ps c)), .int .i64 k] w fun e w' => e = .returned (.tuple #[.int .i64 (((pcsL (ps.take k)).length + (30 + ps[k].loc.name.length + ps[k].loc.extra.length) : Nat) : Int), .int .i64 0]) ∧ Hid (Below w.heap.size w w') := by
  obtain ⟨b, kk, hA, _, hc, _⟩ := h.arc
  have hx := hsP_get ps 0 k hk
  rw [Nat.zero_add] at hx
  exact offset_any 0 b kk N0 k _ (arcP ps c) _ (hsP ps 0) (ps[k].hdr, (pcsL (ps.take k)).length) E0 w hE hA hc hx (pcLoc h hk)
theorem raw_pcs {N0 : Nat} {E0 : Errs} {ps : List Pc} {c : List UInt8} {k : Nat} (w : World) (hE : Env w N0 E0) (h : PcsOk ps c) (hk : k < ps.length) :
    Calls Tryz.prog 17 #[.string (B (arcP ps c)), .int .i64 k] w fun e w' => e = .returned (.tuple #[.string (B ps[k].data), .int .i64 0]) ∧ Hid (Below w.heap.size w w') := by
  obtain ⟨b, kk, hA, _, hc, _⟩ := h.arc
  have hx := hsP_get ps 0 k hk
  rw [Nat.zero_add] at hx
  exact raw_any 0 b kk N0 k _ (arcP ps c) _ ps[k].data (hsP ps 0) (ps[k].hdr, (pcsL (ps.take k)).length) E0 w hE hA hc hx (pcRaw h hk)
end Go.Proofs.Zip
namespace Go.Proofs.Zip
open Go Go.RowKit
/-! A Writer between the calls. -/
/-- The Writer's entries are those of the pieces. -/
def Match (es : List Ent) (ps : List Pc) : Prop := es.map (fun e => (e.h, e.off)) = hsP ps 0
theorem Match.ents {es : List Ent} {ps : List Pc} (h : Match es ps) : entsL es = catL (hsP ps 0) := by
  unfold entsL catL
  rw [← h, List.flatMap_map]
theorem Match.len {es : List Ent} {ps : List Pc} (h : Match es ps) : es.length = ps.length := by
  have := congrArg List.length h
  simpa [hsP_length] using this
theorem Match.snoc {es : List Ent} {ps : List Pc} (h : Match es ps) (e : Ent) (p : Pc) (h1 : e.h = p.hdr) (h2 : e.off = (pcsL ps).length) : Match (es ++ [e]) (ps ++ [p]) := by
  have h' : es.map (fun e => (e.h, e.off)) = hsP ps 0 := h
  unfold Match
  rw [List.map_append, h', hsP_append]
  simp [hsP, h1, h2]
theorem Match.off {es : List Ent} {ps : List Pc} (h : Match es ps) : ∀ e ∈ es, e.off ≤ (pcsL ps).length := by
  intro e he
  obtain ⟨k, hk, rfl⟩ := List.getElem_of_mem he
  have hk2 : k < ps.length := by rw [← h.len]; exact hk
  have h1 := hsP_get ps 0 k hk2
  have h' : es.map (fun e => (e.h, e.off)) = hsP ps 0 := h
  rw [← h', List.getElem?_map, List.getElem?_eq_getElem hk] at h1
  have h2 := pcsL_le ps k
  have h3 := congrArg (fun o => (o.map (·.2)).getD 0) h1
  simp only [Option.map_some, Option.getD_some, Nat.zero_add] at h3
  omega
/-- A piece of bytes as they are. -/
abbrev rawP (h : H) (D : List UInt8) : Pc := ⟨h, D, [], h⟩
/-- What is left to be done is to end the archive: what the last file asks, and what stands then. -/
structure EndK (C0 : Nat) (w : World) (O : Wr) (z : Nat) (ps : List Pc) (cm : List UInt8) : Prop where
  lo : C0 ≤ O.base ∧ C0 ≤ z ∧ z < w.heap.size
  k : ∃ (lw : Option Nat) (lv : Value) (R : World → Prop), w.cell? ⟨z, 2, none⟩ = some lv ∧ LastK w lw R lv ∧
    ∃ (db : Option Nat) (es : List Ent), Match es ps ∧ ∀ w1, R w1 → ∃ ob1, ZwK w1 O z (pcsL ps) ob1 db lw es lv false cm ∧ Fr (fun b => C0 ≤ b) w w1 ∧ ∀ b, b < w.heap.size → Zall O ob1 z db lw b → C0 ≤ b
set_option maxRecDepth 100000 in
set_option maxHeartbeats 1000000 in
theorem closed_any (C0 : Nat) (O : Wr) (z : Nat) (ps : List Pc) (c cm : List UInt8) (w : World) (k5 : w.cell? ⟨z, 5, none⟩ = some (.string (B cm))) (f5 : w.frozen? ⟨z, 5, none⟩ = false) (hE : EndK C0 (w.setCell ⟨z, 5, none⟩ (.string (B c))) O z ps c) (hn : ps.length ≤ 65534) (hc : c.length ≤ 65535) (hlen : (pcsL ps ++ catL (hsP ps 0)).length ≤ 4294967294) (hO : O.Ok) :
    Calls Tryz.prog 44 #[.pointer (some ⟨z, 0, none⟩), .pointer (some ⟨O.sb, 0, none⟩), .string (B c)] w fun e w' => e = .returned (.tuple #[.string (B (arcP ps c)), .bool true]) ∧ Hid (Below C0 w w') := by
  obtain ⟨⟨l1, l2, l3⟩, lw, lv, R, c2, hl, db, es, hm, hR⟩ := hE
  have HCO := Lib.hid (closeK_any O z (pcsL ps) db lw es lv c _ R (fun b => C0 ≤ b) c2 hl hR (by rw [hm.len]; exact hn) hc (by rw [hm.ents]; exact hlen) (fun e he => by
    have := hm.off e he
    rw [List.length_append] at hlen
    omega))
  have HS := Lib.hid (setComment_any z cm c w k5 f5 hc)
  have HM := Lib.hid hm
  have FR0 : Hid (Fr (fun b => C0 ≤ b) w (w.setCell ⟨z, 5, none⟩ (.string (B c)))) := Lib.hid ((Fr.refl _ w).setCell (fun _ => l2) _)
  have L1 := Lib.hid (And.intro l1 (And.intro l2 l3))
  clear k5 f5 c2 hl hR hm l1 l2 l3 hlen
  go_enter Tryz.func44, Tryz.ntmps44
  go_wp2_with (first | (go_at_call 66; refine HS.out.mono ?_; rintro e w1 ⟨rfl, h1⟩; rw [← h1]; clear h1))
  refine HCO.out.mono ?_
  rintro e w2 ⟨rfl, ob', h2⟩
  have HB := Lib.hid (bldString_any O.base O.sb _ ob' w2 h2.out.1 hO.n1)
  have F2 : Hid (Fr (fun b => C0 ≤ b) w w2) := Lib.hid (FR0.out.trans2 h2.out.2 (fun _ h => h) (fun _ h => h))
  clear h2 HCO HS FR0
  go_wp2_with fail
  refine HB.out.mono ?_
  rintro e w3 ⟨rfl, h3⟩
  have FIN : Hid (Below C0 w w3) := Lib.hid (by
    have hw : C0 ≤ w.heap.size := by have := L1.out; simp at this; omega
    exact (F2.out.below hw (fun i hi h => by omega)).trans (h3.mono L1.out.1))
  have HA : Hid (pcsL ps ++ (entsL es ++ endL es.length (entsL es).length (pcsL ps).length c) = arcP ps c) := Lib.hid (by
    rw [arcP, HM.out.ents, HM.out.len])
  clear h3 HB
  go_wp2
  go_ret2
  exact ⟨by rw [← HA.out]; rfl, FIN⟩
end Go.Proofs.Zip
namespace Go.Proofs.Zip
open Go Go.RowKit
/-! A Writer of bytes as they are. -/
/-- Between the calls: the pieces ps were written. -/
def RwS (C0 : Nat) (w : World) (O : Wr) (z : Nat) (ps : List Pc) : Prop := ∃ ob db lw es lv, ZwC w O z (pcsL ps) ob db lw es lv false [] ∧ Match es ps ∧ C0 ≤ O.base ∧ ∀ b, Zall O ob z db lw b → C0 ≤ b
/-- A file is being written: h is its header, D its bytes so far. -/
structure RwO (C0 : Nat) (w : World) (O : Wr) (z : Nat) (ps : List Pc) (h : H) (D : List UInt8) (ob db lw : Option Nat) (es : List Ent) (lv : Value) : Prop where
  zk : ZwC w O z (pcsL (ps ++ [rawP h D])) ob db lw es lv false []
  m : ∀ D', Match es (ps ++ [rawP h D'])
  lo : C0 ≤ O.base ∧ ∀ b, Zall O ob z db lw b → C0 ≤ b
  fw : ∀ l, lw = some l → ∃ hb fhv offv, Blk w l (fwCells O hb false) 163 ∧ Blk w hb #[fhv, offv, .bool true] 153 ∧ ¬ Zall O ob z db lw hb
  sl : slash h.name = true ↔ lw = none
theorem RwO.done {C0 : Nat} {w : World} {O : Wr} {z : Nat} {ps : List Pc} {h : H} {D : List UInt8} {ob db lw : Option Nat} {es : List Ent} {lv : Value} (k : RwO C0 w O z ps h D ob db lw es lv) : RwS C0 w O z (ps ++ [rawP h D]) := ⟨ob, db, lw, es, lv, k.zk, k.m D, k.lo⟩
theorem RwS.fr {C0 : Nat} {w w' : World} {O : Wr} {z : Nat} {ps : List Pc} (k : RwS C0 w O z ps) (hf : Below w.heap.size w w') : RwS C0 w' O z ps := by
  obtain ⟨ob, db, lw, es, lv, h1, h2, h3⟩ := k
  exact ⟨ob, db, lw, es, lv, h1.next hf, h2, h3⟩
theorem RwO.fr {S : Nat → Prop} {C0 : Nat} {w w' : World} {O : Wr} {z : Nat} {ps : List Pc} {h : H} {D : List UInt8} {ob db lw : Option Nat} {es : List Ent} {lv : Value} (k : RwO C0 w O z ps h D ob db lw es lv) (hf : Fr S w w') (h1 : ∀ b, Zall O ob z db lw b → ¬ S b) (h2 : ∀ e ∈ es, ¬ S e.hb ∧ ¬ S e.fh ∧ ∀ d, e.x.ownBlock = some d → ¬ S d) (h3 : ∀ hb fhv offv, Blk w hb #[fhv, offv, .bool true] 153 → ¬ S hb) : RwO C0 w' O z ps h D ob db lw es lv :=
  ⟨k.zk.fr hf h1 h2, k.m, k.lo, fun l e => by
    obtain ⟨hb, fhv, offv, a1, a2, a3⟩ := k.fw l e
    exact ⟨hb, fhv, offv, hf.blk a1 (h1 l (.inr (.inr (.inr e.symm)))), hf.blk a2 (h3 hb _ _ a2), a3⟩, k.sl⟩
theorem RwO.next {C0 : Nat} {w w' : World} {O : Wr} {z : Nat} {ps : List Pc} {h : H} {D : List UInt8} {ob db lw : Option Nat} {es : List Ent} {lv : Value} (k : RwO C0 w O z ps h D ob db lw es lv) (hf : Below w.heap.size w w') : RwO C0 w' O z ps h D ob db lw es lv :=
  k.fr (Fr.of_below (S := fun _ => False) hf) (fun _ _ => id) (fun _ _ => ⟨id, id, fun _ _ => id⟩) (fun _ _ _ _ => id)
theorem pcsL_raw (ps : List Pc) (h : H) (D M : List UInt8) : pcsL (ps ++ [rawP h D]) ++ M = pcsL (ps ++ [rawP h (D ++ M)]) := by
  simp [pcsL, Pc.text, List.append_assoc]
theorem pcsL_rawlen (ps : List Pc) (h : H) (D : List UInt8) : (pcsL (ps ++ [rawP h D])).length = (pcsL ps).length + ((localL h).length + D.length) := by
  simp [pcsL, Pc.text]
theorem pcsL_nilraw (ps : List Pc) (h : H) : pcsL ps ++ localL h = pcsL (ps ++ [rawP h []]) := by
  simp [Pc.text, pcsL]
/-- An entry is begun. -/
theorem RwS.create {C0 : Nat} {w0 w : World} {O : Wr} {z : Nat} {ps : List Pc} (k : RwS C0 w0 O z ps) (hb0 : Below w0.heap.size w0 w) (fh : Nat) (h : H) (non : Bool) (t0 t1 t2 x : Value) (c0 u0 : Int) (hfh : Blk w fh (hdrCells h non t0 t1 t2 x c0 u0) 78) (hx : IsBytes w x h.extra) (hok : HOk h) (hdd : (bits .and .u16 h.flags 8 != 0) = false)
    (hfn : w0.heap.size ≤ fh) (hxn : ∀ d, x.ownBlock = some d → (d < C0 ∨ w0.heap.size ≤ d) ∧ d ≠ fh) (hlen : (pcsL ps).length ≤ 4294967294) (hcnt : ps.length + 1 ≤ 100000) :
    Calls Tryz.prog 52 #[.pointer (some ⟨z, 0, none⟩), .pointer (some ⟨fh, 0, none⟩)] w fun e w' => ∃ ob db lw es lv, e = .returned (.tuple #[rawOut lw, .nilIface]) ∧ Hid (RwO C0 w' O z ps h [] ob db lw es lv ∧ Fr (fun b => (C0 ≤ b ∧ b < w0.heap.size) ∨ b = fh) w w' ∧ ∀ b, w0.heap.size ≤ b → b < w.heap.size → ¬ Zall O ob z db lw b ∧ (b ≠ fh → (∀ d, x.ownBlock = some d → d ≠ b) → ∀ e ∈ es, ∀ d, e.x.ownBlock = some d → d ≠ b)) := by
  obtain ⟨ob, db, lw, es, lv, hZ0, hm, hlo, hz⟩ := k
  have hZ := hZ0.next hb0
  have hlt : ∀ b, Zall O ob z db lw b → b < w0.heap.size := hZ0.lt
  have hs2 : ¬ Zall O ob z db lw fh := fun e => by have := hlt _ e; omega
  refine (createRaw_any O z (pcsL ps) ob db lw es lv w hZ fh h non t0 t1 t2 x c0 u0 hfh hx hok hdd ?_ hs2 ?_ hlen (by rw [hm.len]; exact hcnt)).mono ?_
  · intro e he
    have k := (hZ0.ent e he).hd
    have a1 := k.bh.lt
    have a2 := k.bf.lt
    exact ⟨by omega, by omega, fun d hd => by have := k.bx.lt d hd; omega⟩
  · intro d hd
    refine ⟨fun e => ?_, (hxn d hd).2⟩
    have h1 := hlt _ e
    have h2 := hz _ e
    rcases (hxn d hd).1 with h3 | h3 <;> omega
  · rintro e w' ⟨ob', db', lw', lv', hb, rfl, hh⟩
    obtain ⟨a1, a2, a3, a4, a5⟩ := hh.out
    have hsz := hb0.size
    have hlo2 : ∀ b, Zall O ob' z db' lw' b → C0 ≤ b := fun b hb => by
      by_cases hl : b < w.heap.size
      · exact hz b (a5 b hl hb)
      · have := hz z (.inr (.inl rfl))
        have := hlt z (.inr (.inl rfl))
        omega
    refine ⟨ob', db', lw', es ++ [⟨hb, fh, (pcsL ps).length, true, h, non, t0, t1, t2, x, h.packed, h.size⟩], lv', rfl, Lib.hid ⟨⟨?_, fun D' => ?_, ⟨hlo, hlo2⟩, fun l hl => ?_, a1⟩, a4.mono (fun b hb e => e.imp (fun e => ⟨hz b e, hlt b e⟩) id), fun b h1 h2 => ⟨fun h3 => ?_, fun _ h4 e he d hd => ?_⟩⟩⟩
    · rw [← pcsL_nilraw]; exact a2
    · exact hm.snoc _ _ rfl rfl
    · obtain ⟨cl, b1, rfl⟩ := a3 l hl
      have hE := a2.ent _ (List.mem_append_right _ (List.mem_singleton.2 rfl))
      exact ⟨hb, _, _, b1, hE.hd.bh, hE.s1⟩
    · have := hlt b (a5 b h2 h3); omega
    · rcases List.mem_append.1 he with he | he
      · have := (hZ0.ent e he).hd.bx.lt d hd
        omega
      · cases List.mem_singleton.1 he
        exact h4 d hd
/-- Bytes are written to it. -/
theorem RwO.write {C0 : Nat} {w : World} {O : Wr} {z : Nat} {ps : List Pc} {h : H} {D : List UInt8} {ob db : Option Nat} {l : Nat} {es : List Ent} {lv : Value} (k : RwO C0 w O z ps h D ob db (some l) es lv) (x : Value) (M : List UInt8) (hx : IsBytes w x M) (hs : ∀ d, x.ownBlock = some d → ¬ O.all ob d) (hlen : (pcsL (ps ++ [rawP h D])).length + M.length ≤ 140737488355328) :
    Calls Tryz.prog 203 #[.pointer (some ⟨l, 0, none⟩), x] w fun e w' => e = .returned (.tuple #[.int .i64 M.length, .nilIface]) ∧ ∃ ob', Hid (RwO C0 w' O z ps h (D ++ M) ob' db (some l) es lv ∧ obNext ob ob' w.heap.size ∧ Fr (O.all ob) w w') := by
  obtain ⟨hb, fhv, offv, b1, b2, b3⟩ := k.fw l rfl
  refine (fwRaw_any O k.zk.ok l hb fhv offv x _ M ob w b1 b2 k.zk.out hx hs hlen k.zk.base.1).mono ?_
  rintro e w' ⟨rfl, ob', hh⟩
  obtain ⟨a1, a2, a3⟩ := hh.out
  have hzw := ZwC.wrote k.zk a1 a2 a3
  have za := zall_back (O := O) (z := z) (db := db) (lw := some l) a2
  refine ⟨rfl, ob', Lib.hid ⟨⟨by rw [← pcsL_raw]; exact hzw, k.m, ⟨k.lo.1, fun b hb => ?_⟩, fun l' e => ?_, k.sl⟩, a2, a3⟩⟩
  · by_cases hl : b < w.heap.size
    · exact k.lo.2 b (za b hl hb)
    · have h1 := k.lo.2 z (.inr (.inl rfl))
      have h2 := k.zk.lt z (.inr (.inl rfl))
      omega
  · cases e
    refine ⟨hb, fhv, offv, a3.blk b1 (k.zk.l1 l rfl).1, a3.blk b2 (fun e => b3 (.inl e)), fun e => b3 (za hb b2.lt e)⟩
theorem RwS.endK {C0 : Nat} {w : World} {O : Wr} {z : Nat} {ps : List Pc} (k : RwS C0 w O z ps) (c : List UInt8) : EndK C0 (w.setCell ⟨z, 5, none⟩ (.string (B c))) O z ps c := by
  obtain ⟨ob, db, lw, es, lv, hZ, hm, hlo, hz⟩ := k
  obtain ⟨Z2, F2⟩ := hZ.toZwK.setZ 5 (.string (B c)) false c (fun _ => rfl)
  have Z3 : ZwC (w.setCell ⟨z, 5, none⟩ (.string (B c))) O z (pcsL ps) ob db lw es lv false c := ⟨Z2, hZ.raw, hZ.last.fr F2 (fun l e e2 => hZ.z1.2.2 (by rw [e, e2]))⟩
  have hzl := Z3.lt z (.inr (.inl rfl))
  refine ⟨⟨hlo, hz z (.inr (.inl rfl)), hzl⟩, lw, lv, _, ?_, Z3.lastK, db, es, hm, fun w1 h1 => ⟨ob, h1.1.toZwK, h1.2.mono (fun b _ e => hz b (.inr (.inr (.inr e)))), fun b _ e => hz b e⟩⟩
  obtain ⟨dv, hzb, _⟩ := Z3.zb
  exact hzb.cell 2
theorem RwS.comment {C0 : Nat} {w : World} {O : Wr} {z : Nat} {ps : List Pc} (k : RwS C0 w O z ps) : w.cell? ⟨z, 5, none⟩ = some (.string (B [])) ∧ w.frozen? ⟨z, 5, none⟩ = false ∧ O.Ok := by
  obtain ⟨ob, db, lw, es, lv, hZ, hm, hlo, hz⟩ := k
  obtain ⟨dv, hzb, _⟩ := hZ.zb
  exact ⟨hzb.cell 5, hzb.frozen 5, hZ.ok⟩
end Go.Proofs.Zip
namespace Go.Proofs.Zip
open Go Go.RowKit
/-! impl.raw, impl.WriteRaw. -/
/-- The pieces of entries whose bytes are as they are. -/
def rawPs (es : List E) : List Pc := es.map fun e => rawP e.hdr e.data
theorem rawPs_snoc (es : List E) (k : Nat) (h : k < es.length) : rawPs (es.take (k + 1)) = rawPs (es.take k) ++ [rawP es[k].hdr es[k].data] := by
  unfold rawPs
  rw [List.take_succ_eq_append_getElem h, List.map_append]
  rfl
/-- What raw hands back. -/
def RawH (h : H) (w : World) (e : Ending) (w' : World) : Prop := ∃ (fh : Nat) (x : Value), e = .returned (.pointer (some ⟨fh, 0, none⟩)) ∧ Hid (w.heap.size ≤ fh ∧ Blk w' fh (hdrCells h h.non (.int .u64 0) (.int .i64 0) (.pointer none) x 0 0) 78 ∧ IsBytes w' x h.extra ∧ (∀ d, x.ownBlock = some d → w.heap.size ≤ d ∧ d ≠ fh) ∧ Below w.heap.size w w')
set_option maxRecDepth 100000 in
set_option maxHeartbeats 1000000 in
theorem rawHdr_any (h : H) (hok : HOk h) (w : World) : Calls Tryz.prog 53 #[h.val] w (RawH h w) := by
  obtain ⟨ocr, ord, ofl, ome, oti, oda, ocs, opa, osi, oxt, ona, oco, oex⟩ := hok
  have r1 : IntKind.u16.wrap h.creator = h.creator := by rw [IntKind.wrap_u16]; omega
  have r2 : IntKind.u16.wrap h.reader = h.reader := by rw [IntKind.wrap_u16]; omega
  have r3 : IntKind.u16.wrap h.flags = h.flags := by rw [IntKind.wrap_u16]; omega
  have r4 : IntKind.u16.wrap h.method = h.method := by rw [IntKind.wrap_u16]; omega
  have r5 : IntKind.u16.wrap h.time = h.time := by rw [IntKind.wrap_u16]; omega
  have r6 : IntKind.u16.wrap h.date = h.date := by rw [IntKind.wrap_u16]; omega
  have r7 : IntKind.u32.wrap h.crc = h.crc := by rw [IntKind.wrap_u32]; omega
  have r8 : IntKind.u64.wrap h.packed = h.packed := by rw [IntKind.wrap_u64]; omega
  have r9 : IntKind.u64.wrap h.size = h.size := by rw [IntKind.wrap_u64]; omega
  have r10 : IntKind.u32.wrap h.ext = h.ext := by rw [IntKind.wrap_u32]; omega
  clear ocr ord ofl ome oti oda ocs opa osi oxt ona oco oex
  have hcv := fun w => run_bytes h.extra w
  have BX := below_blk (bytesW_below h.extra (w.alloc (.cells h.cells.toArray 36))) (Blk.new w h.cells.toArray 36)
  have g3 : (bytesW h.extra (w.alloc (.cells h.cells.toArray 36))).cell? ⟨w.heap.size, 3, none⟩ = some (.bool h.non) := BX.cell 3
  have g4 : (bytesW h.extra (w.alloc (.cells h.cells.toArray 36))).cell? ⟨w.heap.size, 4, none⟩ = some (.int .i64 h.creator) := BX.cell 4
  have g5 : (bytesW h.extra (w.alloc (.cells h.cells.toArray 36))).cell? ⟨w.heap.size, 5, none⟩ = some (.int .i64 h.reader) := BX.cell 5
  have g6 : (bytesW h.extra (w.alloc (.cells h.cells.toArray 36))).cell? ⟨w.heap.size, 6, none⟩ = some (.int .i64 h.flags) := BX.cell 6
  have g7 : (bytesW h.extra (w.alloc (.cells h.cells.toArray 36))).cell? ⟨w.heap.size, 7, none⟩ = some (.int .i64 h.method) := BX.cell 7
  have g8 : (bytesW h.extra (w.alloc (.cells h.cells.toArray 36))).cell? ⟨w.heap.size, 8, none⟩ = some (.int .i64 h.time) := BX.cell 8
  have g9 : (bytesW h.extra (w.alloc (.cells h.cells.toArray 36))).cell? ⟨w.heap.size, 9, none⟩ = some (.int .i64 h.date) := BX.cell 9
  have g10 : (bytesW h.extra (w.alloc (.cells h.cells.toArray 36))).cell? ⟨w.heap.size, 10, none⟩ = some (.int .i64 h.crc) := BX.cell 10
  have g11 : (bytesW h.extra (w.alloc (.cells h.cells.toArray 36))).cell? ⟨w.heap.size, 11, none⟩ = some (.int .i64 h.packed) := BX.cell 11
  have g12 : (bytesW h.extra (w.alloc (.cells h.cells.toArray 36))).cell? ⟨w.heap.size, 12, none⟩ = some (.int .i64 h.size) := BX.cell 12
  have g13 : (bytesW h.extra (w.alloc (.cells h.cells.toArray 36))).cell? ⟨w.heap.size, 13, none⟩ = some (.int .i64 h.ext) := BX.cell 13
  clear BX
  have hb : Below w.heap.size w (bytesW h.extra (w.alloc (.cells h.cells.toArray 36))) := ((Below.refl w.heap.size w).alloc (Nat.le_refl _) _).trans ((bytesW_below _ _).mono (by simp))
  have hz : (bytesW h.extra (w.alloc (.cells h.cells.toArray 36))).heap.size = w.heap.size + 2 := by rw [bytesW_size]; simp
  have hrg := bytesW_range h.extra (w.alloc (.cells h.cells.toArray 36))
  have hcp := bytesW_cap h.extra (w.alloc (.cells h.cells.toArray 36))
  have HB := Lib.hid (And.intro hb (And.intro hz (And.intro hrg hcp)))
  clear hb hz hrg hcp
  go_enter Tryz.func53, Tryz.ntmps53
  go_wp2
  clear r1 r2 r3 r4 r5 r6 r7 r8 r9 r10 g3 g4 g5 g6 g7 g8 g9 g10 g11 g12 g13 hcv
  obtain ⟨hb, hz, hrg, hcp⟩ := HB.out
  generalize hw2 : bytesW h.extra (w.alloc (.cells h.cells.toArray 36)) = w2 at hb hz hrg ⊢
  go_ret
  refine ⟨_, _, rfl, Lib.hid ⟨?_, Blk.new _ _ _, .inr ⟨_, _, _, rfl, ?_, hcp, ?_⟩, ?_, hb.alloc (by omega) _⟩⟩
  · omega
  · rw [World.size_alloc]; omega
  · intro j v hj
    have := hrg j v hj
    rw [World.size_alloc] at this
    rw [← this]
    exact ((Below.refl w2.heap.size w2).alloc (Nat.le_refl _) _).cell (p := ⟨w.heap.size + 1, 0 + j, none⟩) (by show w.heap.size + 1 < _; omega)
  · intro d hd
    have : w.heap.size + 1 = d := Option.some.inj hd
    omega
set_option maxRecDepth 100000 in
set_option maxHeartbeats 4000000 in
theorem writeRaw_any (es : List E) (c : List UInt8) (v : Value) (w : World) (hl : IsList w v es) (hok : ∀ p ∈ rawPs es, PcOk p) (hfl : ∀ e ∈ es, (bits .and .u16 e.hdr.flags 8 != 0) = false) (hdr : ∀ e ∈ es, slash e.hdr.name = true → e.data = []) (hn : es.length ≤ 1000) (hc : c.length ≤ 65535) :
    Calls Tryz.prog 26 #[v, .string (B c)] w fun e w' => e = .returned (.tuple #[.string (B (arcP (rawPs es) c)), .bool true]) ∧ Hid (Below w.heap.size w w') := by
  obtain ⟨a, cap, rfl, hl⟩ := hl
  have HL := Lib.hid hl
  have HNW := Lib.hid (newWriter_any w.heap.size (w.alloc (.cells #[.pointer none, .slice none 0 0] 95)) (Blk.new _ _ _))
  have HN := Lib.hid hn
  have HE := Lib.hid (And.intro hok (And.intro hfl hdr))
  clear hl hn hok hfl hdr
  go_enter Tryz.func26, Tryz.ntmps26
  go_wp2_with fail
  refine HNW.out.mono ?_
  rintro e w1 ⟨O, z, rfl, h1⟩
  obtain ⟨hsb, hba, hZ, hb1, hlow⟩ := h1.out
  have hbw : Below w.heap.size w w1 := ((Below.refl w.heap.size w).alloc (Nat.le_refl _) (.cells #[.pointer none, .slice none 0 0] 95)).trans (hb1.mono (by simp))
  have RS : Hid (RwS w.heap.size w1 O z []) := Lib.hid ⟨none, none, none, [], .pointer none, hZ, rfl, Nat.le_of_eq hba.symm, fun b hb => by
    by_cases hl : b < (w.alloc (.cells #[.pointer none, .slice none 0 0] 95)).heap.size
    · exact Nat.le_of_eq (hlow b hl hb).symm
    · simp at hl; omega⟩
  have HBW := Lib.hid hbw
  have HSB := Lib.hid hsb
  clear h1 hZ hb1 hlow hbw hba hsb HNW
  go_wp2_with fail
  go_loopw [21] (fun t21 wr => ∃ k : Nat, t21 = .int .i64 k ∧ k ≤ es.length ∧ Hid (RwS w.heap.size wr O z (rawPs (es.take k))) ∧ Hid (Below w.heap.size w wr)) (fun t21 _ => es.length - (intOf t21).toNat)
  case atStart => exact ⟨0, rfl, Nat.zero_le _, RS, HBW⟩
  case round =>
    obtain ⟨k, rfl, hk, hS, hB⟩ := hrel
    have hes := HN.out
    by_cases hlt : k < es.length
    · obtain ⟨b, off, rfl, hblt, hr0⟩ := HL.out (fun e => by simp [e] at hlt)
      have hr := rangeAt_below hB.out (hr0 k es[k] (List.getElem?_eq_getElem hlt)) hblt
      have hem : es[k] ∈ es := List.getElem_mem hlt
      have hpo := HE.out.1 (rawP es[k].hdr es[k].data) (List.mem_map.2 ⟨_, hem, rfl⟩)
      have hflk := HE.out.2.1 _ hem
      have hdrk := HE.out.2.2 _ hem
      have hps := rawPs_snoc es k hlt
      have hpl : (pcsL (rawPs (es.take k))).length ≤ 1168622000 := by
        have h1 := pcsL_ok (ps := rawPs (es.take k)) (fun p hp => HE.out.1 p (by
          obtain ⟨e, he, rfl⟩ := List.mem_map.1 hp
          exact List.mem_map.2 ⟨e, List.mem_of_mem_take he, rfl⟩))
        have h2 : (rawPs (es.take k)).length ≤ 1000 := by
          have := HN.out
          unfold rawPs
          rw [List.length_map, List.length_take]; omega
        omega
      have hcnt : (rawPs (es.take k)).length + 1 ≤ 100000 := by
        have := HN.out
        unfold rawPs
        rw [List.length_map, List.length_take]; omega
      have HPS := Lib.hid hps
      have HPL := Lib.hid (And.intro hpl hcnt)
      have HPO := Lib.hid hpo
      have HFL := Lib.hid hflk
      have HDR := Lib.hid hdrk
      have hdl := hpo.data
      clear hem hpo hflk hdrk hps hpl hcnt hr0
      generalize es[k] = e at hr HPO HFL HDR HPS hdl
      obtain ⟨ps, hps⟩ : ∃ ps, ps = rawPs (es.take k) := ⟨_, rfl⟩
      rw [← hps] at hS HPS HPL
      clear hps
      have hsz := hB.out.size
      have hrn : (wr.alloc (.cells e.cells.toArray 38)).rangeAt wr.heap.size 0 e.hdr.cells := rangeAt_part (n := 0) (rangeAt_new wr e.cells 38) rfl
      have hokh := HOk.of HPO.out.hdr
      go_wp2_with (first
          | (refine wpList_load_mid rfl 38 _ rfl b (off + k * 15) rfl e.cells _ hr Tryz.underlying38 rfl sizeEnt ?_)
          | (refine wpList_alloc_store 38 _ _ e.cells rfl rfl rfl rfl rfl rfl sizesEnt rfl ?_)
          | (refine wpList_load_mid rfl 36 _ rfl wr.heap.size 0 rfl e.hdr.cells _ hrn Tryz.underlying36 rfl sizeHdr ?_)
          | (go_at_call 53; refine (rawHdr_any e.hdr hokh _).mono ?_; rintro r w2 ⟨fh, x, rfl, h2⟩))
      have hb2 : Below wr.heap.size wr w2 := ((Below.refl wr.heap.size wr).alloc (Nat.le_refl _) (.cells e.cells.toArray 38)).trans (h2.out.2.2.2.2.mono (by simp))
      have HB2 := Lib.hid hb2
      have BE2 : Hid (Blk w2 wr.heap.size e.cells.toArray 38) := Lib.hid (below_blk h2.out.2.2.2.2 (Blk.new _ _ _))
      have hfh1 : wr.heap.size + 1 ≤ fh := by have := h2.out.1; simpa using this
      have HCR := Lib.hid (hS.out.create hb2 fh e.hdr e.hdr.non (.int .u64 0) (.int .i64 0) (.pointer none) x 0 0 h2.out.2.1 h2.out.2.2.1 hokh HFL.out (by omega) (fun d hd => by have := h2.out.2.2.2.1 d hd; simp at this; exact ⟨.inr (by omega), this.2⟩) (by have := HPL.out.1; omega) HPL.out.2)
      clear hr hrn hb2 h2 hokh
      refine HCR.out.mono ?_
      rintro r w3 ⟨ob3, db3, lw3, es3, lv3, rfl, h3⟩
      have c14 : w3.cell? ⟨wr.heap.size, 14, none⟩ = some (.string (B e.data)) := (h3.out.2.1.blk BE2.out (by omega)).cell 14
      have hB3 : Hid (Below w.heap.size w w3) := Lib.hid ((hB.out.trans (HB2.out.mono hsz)).trans (h3.out.2.1.below (Nat.le_trans hsz HB2.out.size) (fun i hi => by omega)))
      have hsl := h3.out.1.sl
      have hcv := fun w => run_bytes e.data w
      cases lw3 with
      | none =>
        have hd0 : e.data = [] := HDR.out (hsl.2 rfl)
        have HO3 := Lib.hid h3.out.1.done
        have HD0 := Lib.hid hd0
        rw [hd0] at hcv c14
        clear h3 HCR BE2 HB2 hsl hd0
        dsimp only [rawOut]
        have HDW := Lib.hid (dirWrite_any (.slice (some ⟨w3.heap.size, 0, none⟩) 0 (grownCap w3 0 0 5)) (bytesW [] w3) ⟨_, _, rfl⟩ (.agg #[]) rfl)
        go_wp2_with fail
        refine HDW.out.mono ?_
        rintro r w4 ⟨rfl, h4⟩
        have hb4 : Below w3.heap.size w3 w4 := (bytesW_below [] w3).trans (h4.out.mono (by rw [bytesW_size]; omega))
        have FIN : Hid (RwS w.heap.size w4 O z (rawPs (es.take (k + 1))) ∧ Below w.heap.size w w4) := Lib.hid ⟨by rw [HPS.out, HD0.out]; exact HO3.out.fr hb4, hB3.out.trans (hb4.mono hB3.out.size)⟩
        clear h4 HDW HO3 hb4
        go_wp2
        exact ⟨⟨k + 1, by go_num, by omega, Lib.hid FIN.out.1, Lib.hid FIN.out.2⟩, by simp [intOf]; omega⟩
      | some l =>
        have HO3 := Lib.hid (h3.out.1.next (bytesW_below e.data w3))
        have hlt3 := h3.out.1.zk.out.ltn
        have HW := Lib.hid (HO3.out.write (.slice (some ⟨w3.heap.size, 0, none⟩) e.data.length (grownCap w3 e.data.length 0 5)) e.data (.inr ⟨w3.heap.size, 0, _, rfl, by rw [bytesW_size]; omega, bytesW_cap _ _, bytesW_range _ _⟩) (fun d hd => by
          have hd2 : w3.heap.size = d := Option.some.inj hd
          subst hd2
          intro e; exact Nat.lt_irrefl _ (hlt3 _ e)) (by
          have := HPL.out.1
          have hk := HOk.of HPO.out.hdr
          have h1 : e.hdr.name.length ≤ 60000 := hk.name
          have h2 : e.hdr.extra.length ≤ 60000 := hk.extra
          rw [pcsL_rawlen, length_localL]
          simp only [List.length_nil]
          omega))
        have hlo3 := h3.out.1.lo.2
        clear h3 HCR BE2 HB2 hsl hlt3
        dsimp only [rawOut]
        go_wp2_with fail
        refine HW.out.mono ?_
        rintro r w4 ⟨rfl, ob4, h4⟩
        have FIN : Hid (RwS w.heap.size w4 O z (rawPs (es.take (k + 1))) ∧ Below w.heap.size w w4) := Lib.hid ⟨by
          rw [HPS.out]
          have := h4.out.1.done
          rw [List.nil_append] at this
          exact this, (hB3.out.trans ((bytesW_below e.data w3).mono hB3.out.size)).trans (h4.out.2.2.below (by rw [bytesW_size]; have := hB3.out.size; omega) (fun i hi e => by have := hlo3 i (.inl e); omega))⟩
        clear h4 HW HO3 hlo3
        go_wp2
        exact ⟨⟨k + 1, by go_num, by omega, Lib.hid FIN.out.1, Lib.hid FIN.out.2⟩, by simp [intOf]; omega⟩
    · obtain rfl : k = es.length := by omega
      obtain ⟨k5, f5, hO⟩ := hS.out.comment
      have hR := hS.out
      rw [List.take_of_length_le (Nat.le_refl _)] at hR
      have hps := pcsL_ok HE.out.1
      have hps2 := catP_ok HE.out.1 0
      have hln : (rawPs es).length ≤ 1000 := by unfold rawPs; rw [List.length_map]; exact HN.out
      have HCL := Lib.hid (closed_any w.heap.size O z (rawPs es) c [] wr k5 f5 (hR.endK c) (by omega) hc (by rw [List.length_append]; omega) hO)
      rw [HSB.out] at HCL
      clear k5 f5 hO hR hps hps2 hln hS
      go_wp2_with fail
      refine HCL.out.mono ?_
      rintro r w4 ⟨rfl, h4⟩
      have FIN : Hid (Below w.heap.size w w4) := Lib.hid (hB.out.trans h4.out)
      clear h4 HCL
      go_wp2
      go_ret2
      exact ⟨rfl, FIN⟩
end Go.Proofs.Zip
