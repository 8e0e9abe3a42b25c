/- A part of a proof over the given program: Fw, Zw, Zw2, Pr, Cr. Nothing is assumed here. -/
import Derived.Test.YtidmhfhfcoljeaaGreatDoorZY
import Derived.Test.YtidmhfhfcoljeaaGreatDoorZA
import Derived.Test.YtidmhfhfcoljeaaGreatDoorZN
import Derived.LaidEqlPtr
import Derived.Deep.DeepCutAuto
namespace Go.Proofs.Zip
open Go Go.RowKit
/-! A fileWriter of bytes that are written as they are: Write and close. -/
/-- Its cells. -/
abbrev fwCells (O : Wr) (hb : Nat) (cl : Bool) : Array Value := #[.pointer (some ⟨hb, 0, none⟩), cwv O, .pointer none, .nilIface, .pointer none, .pointer none, .bool cl]
set_option maxRecDepth 100000 in
/-- Without the flag no descriptor is written. -/
theorem wddNone_any (l hb fh : Nat) (fc hc : Array Value) (h : H) (non : Bool) (t0 t1 t2 x : Value) (c u : Int) (w : World) (hl : Blk w l fc 163) (hl0 : fc[0]? = some (.pointer (some ⟨hb, 0, none⟩))) (hh : Blk w hb hc 153) (hh0 : hc[0]? = some (.pointer (some ⟨fh, 0, none⟩))) (hf : Blk w fh (hdrCells h non t0 t1 t2 x c u) 78) (hdd : (bits .and .u16 h.flags 8 != 0) = false) :
    Calls Tryz.prog 129 #[.pointer (some ⟨l, 0, none⟩)] w fun e w' => e = .returned .nilIface ∧ w = w' := by
  have c0 : w.cell? ⟨l, 0, none⟩ = some (.pointer (some ⟨hb, 0, none⟩)) := (hl.cell 0).trans hl0
  have d0 : w.cell? ⟨hb, 0, none⟩ = some (.pointer (some ⟨fh, 0, none⟩)) := (hh.cell 0).trans hh0
  have HD := Lib.hid (dataDescH_any fh h non t0 t1 t2 x c u w hf)
  rw [hdd] at HD
  clear hl hl0 hh hh0 hf hdd
  go_enter Tryz.func129, Tryz.ntmps129
  go_wp2_with (go_at_call 83; refine HD.out.mono ?_; rintro e w1 ⟨rfl, rfl⟩)
  go_ret
  exact ⟨rfl, rfl⟩
set_option maxRecDepth 100000 in
theorem closeRaw_any (O : Wr) (l hb fh : Nat) (off : Int) (h : H) (non : Bool) (t0 t1 t2 x : Value) (c u : Int) (w : World) (hl : Blk w l (fwCells O hb false) 163) (hh : Blk w hb #[.pointer (some ⟨fh, 0, none⟩), .int .u64 off, .bool true] 153) (hf : Blk w fh (hdrCells h non t0 t1 t2 x c u) 78) (hdd : (bits .and .u16 h.flags 8 != 0) = false) (hlh : l ≠ hb) (hlf : l ≠ fh) :
    Calls Tryz.prog 93 #[.pointer (some ⟨l, 0, none⟩)] w fun e w' => e = .returned .nilIface ∧ Hid (Blk w' l (fwCells O hb true) 163 ∧ Fr (· = l) w w') := by
  have c0 : w.cell? ⟨l, 0, none⟩ = some (.pointer (some ⟨hb, 0, none⟩)) := hl.cell 0
  have c6 : w.cell? ⟨l, 6, none⟩ = some (.bool false) := hl.cell 6
  have f6 : w.frozen? ⟨l, 6, none⟩ = false := hl.frozen 6
  have d2 : w.cell? ⟨hb, 2, none⟩ = some (.bool true) := hh.cell 2
  have H1 := hl.set 6 (.bool true)
  have HW := Lib.hid (wddNone_any l hb fh _ _ h non t0 t1 t2 x c u (w.setCell ⟨l, 6, none⟩ (.bool true)) H1 rfl (hh.set_ne hlh.symm _) rfl (hf.set_ne hlf.symm _) hdd)
  have FIN : Hid (Blk (w.setCell ⟨l, 6, none⟩ (.bool true)) l (fwCells O hb true) 163 ∧ Fr (· = l) w (w.setCell ⟨l, 6, none⟩ (.bool true))) := Lib.hid ⟨H1, (Fr.refl (· = l) w).setCell (fun _ => rfl) _⟩
  have e0 : (w.setCell ⟨l, 6, none⟩ (.bool true)).cell? ⟨hb, 2, none⟩ = some (.bool true) := (hh.set_ne hlh.symm _).cell 2
  clear hl hh hf hdd H1
  go_enter Tryz.func93, Tryz.ntmps93
  go_wp2_with (go_at_call 129; refine HW.out.mono ?_; rintro e w1 ⟨rfl, rfl⟩)
  go_ret
  exact ⟨rfl, FIN⟩
set_option maxRecDepth 100000 in
/-- What is written to it goes out as it is. -/
theorem fwRaw_any (O : Wr) (hO : O.Ok) (l hb : Nat) (fhv offv : Value) (x : Value) (L M : List UInt8) (ob : Option Nat) (w : World) (hl : Blk w l (fwCells O hb false) 163) (hh : Blk w hb #[fhv, offv, .bool true] 153) (h : OutC w O L ob) (hx : IsBytes w x M) (hs : ∀ d, x.ownBlock = some d → ¬ O.all ob d) (hlen : L.length + M.length ≤ 140737488355328) (hbase : O.base ≤ w.heap.size) :
    Calls Tryz.prog 203 #[.pointer (some ⟨l, 0, none⟩), x] w fun e w' => e = .returned (.tuple #[.int .i64 M.length, .nilIface]) ∧ ∃ ob', Hid (OutC w' O (L ++ M) ob' ∧ obNext ob ob' w.heap.size ∧ Fr (O.all ob) w w') := by
  have c0 : w.cell? ⟨l, 0, none⟩ = some (.pointer (some ⟨hb, 0, none⟩)) := hl.cell 0
  have c1 : w.cell? ⟨l, 1, none⟩ = some (cwv O) := hl.cell 1
  have c6 : w.cell? ⟨l, 6, none⟩ = some (.bool false) := hl.cell 6
  have d2 : w.cell? ⟨hb, 2, none⟩ = some (.bool true) := hh.cell 2
  have HC := Lib.hid (cwWrite_any O hO x L M ob w h hx hs hlen hbase)
  clear hl hh h hx
  go_enter Tryz.func203, Tryz.ntmps203
  go_wp2_with fail
  refine HC.out.mono ?_
  rintro e w1 ⟨rfl, ob', h1⟩
  clear HC
  go_wp2
  go_ret2
  exact ⟨rfl, ob', h1⟩
set_option maxRecDepth 100000 in
/-- A directory takes no bytes. -/
theorem dirWrite_any (x : Value) (w : World) (hx : ∃ a cap, x = .slice a 0 cap) (r : Value) (hr : r = .agg #[]) :
    Calls Tryz.prog 211 #[r, x] w fun e w' => e = .returned (.tuple #[.int .i64 0, .nilIface]) ∧ Hid (Below w.heap.size w w') := by
  obtain ⟨a, cap, rfl⟩ := hx
  subst hr
  go_enter Tryz.func211, Tryz.ntmps211
  go_wp2
  go_ret2
  exact ⟨rfl, by first | exact Lib.hid (Below.refl _ _) | exact Lib.hid ((Below.refl _ _).alloc (Nat.le_refl _) _)⟩
end Go.Proofs.Zip
namespace Go.Proofs.Zip
open Go Go.RowKit
/-! What a Writer holds. -/
/-- An entry of a Writer's directory. -/
structure Ent where
  hb : Nat
  fh : Nat
  off : Nat
  raw : Bool
  h : H
  non : Bool
  t0 : Value
  t1 : Value
  t2 : Value
  x : Value
  c : Int
  u : Int
abbrev Ent.ptr (e : Ent) : Value := .pointer (some ⟨e.hb, 0, none⟩)
/-- The blocks that a Writer turns: its output's, its own, its directory's, its last file's. -/
def Zall (O : Wr) (ob : Option Nat) (z : Nat) (db lw : Option Nat) (b : Nat) : Prop := O.all ob b ∨ b = z ∨ some b = db ∨ some b = lw
/-- An entry as it lies, apart from what the Writer turns. -/
structure EntOk (w : World) (O : Wr) (ob : Option Nat) (z : Nat) (db lw : Option Nat) (e : Ent) : Prop where
  hd : Hb w O ob e.hb e.fh e.off e.raw e.h e.non e.t0 e.t1 e.t2 e.x e.c e.u
  s1 : ¬ Zall O ob z db lw e.hb
  s2 : ¬ Zall O ob z db lw e.fh
  s3 : ∀ d, e.x.ownBlock = some d → ¬ Zall O ob z db lw d
  ne : e.hb ≠ e.fh
theorem EntOk.fr {S : Nat → Prop} {w w' : World} {O : Wr} {ob : Option Nat} {z : Nat} {db lw : Option Nat} {e : Ent} (h : EntOk w O ob z db lw e) (hf : Fr S w w') (hS : ∀ b, S b → Zall O ob z db lw b) : EntOk w' O ob z db lw e :=
  ⟨⟨hf.blk h.hd.bh (fun k => h.s1 (hS _ k)), hf.blk h.hd.bf (fun k => h.s2 (hS _ k)), h.hd.bx.fr hf (fun d hd k => h.s3 d hd (hS _ k)), h.hd.s1, h.hd.s2, h.hd.s3, h.hd.ok⟩, h.s1, h.s2, h.s3, h.ne⟩
/-- The writer's blocks may be new ones. -/
theorem EntOk.next {w : World} {O : Wr} {ob ob' : Option Nat} {z : Nat} {db db' lw lw' : Option Nat} {e : Ent} (h : EntOk w O ob z db lw e) (h1 : ∀ b, b < w.heap.size → Zall O ob' z db' lw' b → Zall O ob z db lw b) : EntOk w O ob' z db' lw' e :=
  ⟨⟨h.hd.bh, h.hd.bf, h.hd.bx, fun k => h.s1 (h1 _ h.hd.bh.lt (.inl k)), fun k => h.s2 (h1 _ h.hd.bf.lt (.inl k)), fun d hd k => h.s3 d hd (h1 _ (h.hd.bx.lt d hd) (.inl k)), h.hd.ok⟩, fun k => h.s1 (h1 _ h.hd.bh.lt k), fun k => h.s2 (h1 _ h.hd.bf.lt k), fun d hd k => h.s3 d hd (h1 _ (h.hd.bx.lt d hd) k), h.ne⟩
abbrev zwCells (O : Wr) (dv lv : Value) (cl : Bool) (cm : List UInt8) : Array Value := #[.pointer (some ⟨O.cw, 0, none⟩), dv, lv, .bool cl, .map none, .string (B cm), .nilFunc]
/-- The last file: none, or one of bytes as they are; it is closed or not. -/
inductive LastRaw (w : World) (O : Wr) (es : List Ent) : Option Nat → Value → Prop where
  | none : LastRaw w O es none (.pointer none)
  | some (l : Nat) (e : Ent) (cl : Bool) (hl : Blk w l (fwCells O e.hb cl) 163) (he : e ∈ es) : LastRaw w O es (some l) (.pointer (some ⟨l, 0, none⟩))
/-- A Writer at z, whatever its last file is. -/
structure ZwK (w : World) (O : Wr) (z : Nat) (L : List UInt8) (ob db lw : Option Nat) (es : List Ent) (lv : Value) (cl : Bool) (cm : List UInt8) : Prop where
  ok : O.Ok
  out : OutC w O L ob
  zb : ∃ dv, Blk w z (zwCells O dv lv cl cm) 136 ∧ w.ownsRow O.base 151 1 dv es.length (es.map Ent.ptr) ∧ dv.ownBlock = db
  z1 : ¬ O.all ob z ∧ some z ≠ db ∧ some z ≠ lw
  d1 : ∀ d, db = some d → ¬ O.all ob d ∧ some d ≠ lw
  l1 : ∀ l, lw = some l → ¬ O.all ob l ∧ l < w.heap.size
  ent : ∀ e ∈ es, EntOk w O ob z db lw e
  base : O.base ≤ w.heap.size ∧ O.base ≤ z
  cnt : es.length ≤ 100000
/-- .. whose entries are bytes as they are. -/
structure ZwC (w : World) (O : Wr) (z : Nat) (L : List UInt8) (ob db lw : Option Nat) (es : List Ent) (lv : Value) (cl : Bool) (cm : List UInt8) : Prop extends ZwK w O z L ob db lw es lv cl cm where
  raw : ∀ e ∈ es, e.raw = true ∧ (bits .and .u16 e.h.flags 8 != 0) = false
  last : LastRaw w O es lw lv
/-- .. that is open, without a comment. -/
abbrev Zw (w : World) (O : Wr) (z : Nat) (L : List UInt8) (ob db lw : Option Nat) (es : List Ent) (lv : Value) : Prop := ZwC w O z L ob db lw es lv false []
end Go.Proofs.Zip
namespace Go.Proofs.Zip
open Go Go.RowKit
/-! What a Writer holds, behind each kind of step. -/
theorem OutC.ltn {w : World} {O : Wr} {L : List UInt8} {ob : Option Nat} (h : OutC w O L ob) : ∀ b, O.all ob b → b < w.heap.size := by
  rintro b ((e | e | e | e) | e)
  · subst e; exact h.out.lts.1
  · subst e; exact h.out.lts.2.1
  · subst e; exact h.out.lts.2.2
  · exact (h.out.obs b e.symm).2
  · subst e; exact h.cw.lt
/-- An entry behind a step, the writer's blocks may be new ones. -/
theorem EntOk.step {S : Nat → Prop} {w w' : World} {O : Wr} {ob ob' : Option Nat} {z : Nat} {db db' lw lw' : Option Nat} {e : Ent} (h : EntOk w O ob z db lw e) (hf : Fr S w w') (hS : ∀ b, S b → Zall O ob z db lw b) (h1 : ∀ b, b < w.heap.size → Zall O ob' z db' lw' b → Zall O ob z db lw b) : EntOk w' O ob' z db' lw' e :=
  ⟨⟨hf.blk h.hd.bh (fun k => h.s1 (hS _ k)), hf.blk h.hd.bf (fun k => h.s2 (hS _ k)), h.hd.bx.fr hf (fun d hd k => h.s3 d hd (hS _ k)), fun k => h.s1 (h1 _ h.hd.bh.lt (.inl k)), fun k => h.s2 (h1 _ h.hd.bf.lt (.inl k)), fun d hd k => h.s3 d hd (h1 _ (h.hd.bx.lt d hd) (.inl k)), h.hd.ok⟩, fun k => h.s1 (h1 _ h.hd.bh.lt k), fun k => h.s2 (h1 _ h.hd.bf.lt k), fun d hd k => h.s3 d hd (h1 _ (h.hd.bx.lt d hd) k), h.ne⟩
theorem ZwK.lt {w : World} {O : Wr} {z : Nat} {L : List UInt8} {ob db lw : Option Nat} {es : List Ent} {lv : Value} {cl : Bool} {cm : List UInt8} (h : ZwK w O z L ob db lw es lv cl cm) : ∀ b, Zall O ob z db lw b → b < w.heap.size := by
  obtain ⟨dv, hzb, hown, hdb⟩ := h.zb
  rintro b (e | e | e | e)
  · exact h.out.ltn b e
  · subst e; exact hzb.lt
  · exact (ownBlock_ge hown b (by rw [hdb]; exact e)).2
  · exact (h.l1 b e.symm).2
/-- Blocks apart have turned. -/
theorem ZwK.fr {S : Nat → Prop} {w w' : World} {O : Wr} {z : Nat} {L : List UInt8} {ob db lw : Option Nat} {es : List Ent} {lv : Value} {cl : Bool} {cm : List UInt8} (h : ZwK w O z L ob db lw es lv cl cm) (hf : Fr S w w') (h1 : ∀ b, (O.all ob b ∨ b = z ∨ some b = db) → ¬ S b) (h2 : ∀ e ∈ es, ¬ S e.hb ∧ ¬ S e.fh ∧ ∀ d, e.x.ownBlock = some d → ¬ S d) : ZwK w' O z L ob db lw es lv cl cm := by
  obtain ⟨dv, hzb, hown, hdb⟩ := h.zb
  refine ⟨h.ok, h.out.fr hf (fun x hx => h1 x (.inl hx)), ⟨dv, hf.blk hzb (h1 _ (.inr (.inl rfl))), ownsRow_fr hown hf (fun b hS e => h1 b (.inr (.inr (by rw [e, hdb]))) hS), hdb⟩, h.z1, h.d1, fun l e => ⟨(h.l1 l e).1, Nat.lt_of_lt_of_le (h.l1 l e).2 hf.size⟩, fun e he => ?_, ⟨Nat.le_trans h.base.1 hf.size, h.base.2⟩, h.cnt⟩
  have k := h.ent e he
  obtain ⟨a1, a2, a3⟩ := h2 e he
  exact ⟨⟨hf.blk k.hd.bh a1, hf.blk k.hd.bf a2, k.hd.bx.fr hf a3, k.hd.s1, k.hd.s2, k.hd.s3, k.hd.ok⟩, k.s1, k.s2, k.s3, k.ne⟩
theorem ZwK.next {w w' : World} {O : Wr} {z : Nat} {L : List UInt8} {ob db lw : Option Nat} {es : List Ent} {lv : Value} {cl : Bool} {cm : List UInt8} (h : ZwK w O z L ob db lw es lv cl cm) (hf : Below w.heap.size w w') : ZwK w' O z L ob db lw es lv cl cm :=
  h.fr (Fr.of_below (S := fun _ => False) hf) (fun _ _ => id) (fun _ _ => ⟨id, id, fun _ _ => id⟩)
/-- The output's blocks behind a write. -/
theorem zall_back {w : World} {O : Wr} {z : Nat} {ob ob' db lw : Option Nat} (hn : obNext ob ob' w.heap.size) : ∀ b, b < w.heap.size → Zall O ob' z db lw b → Zall O ob z db lw b := fun b hb => by
  rintro (e | e)
  · exact .inl (Classical.byContradiction fun hc => Wr.all_next hn hb hc e)
  · exact .inr e
/-- Bytes were written. -/
theorem ZwK.wrote {w w' : World} {O : Wr} {z : Nat} {L L' : List UInt8} {ob ob' db lw : Option Nat} {es : List Ent} {lv : Value} {cl : Bool} {cm : List UInt8} (h : ZwK w O z L ob db lw es lv cl cm) (ho : OutC w' O L' ob') (hn : obNext ob ob' w.heap.size) (hf : Fr (O.all ob) w w') : ZwK w' O z L' ob' db lw es lv cl cm := by
  obtain ⟨dv, hzb, hown, hdb⟩ := h.zb
  have hd : ∀ b, some b = db → ¬ O.all ob b ∧ ¬ O.all ob' b := fun b e => by
    have h1 := (h.d1 b e.symm).1
    exact ⟨h1, Wr.all_next hn (h.lt b (.inr (.inr (.inl e)))) h1⟩
  have hl : ∀ b, some b = lw → ¬ O.all ob b ∧ ¬ O.all ob' b := fun b e => by
    have h1 := (h.l1 b e.symm).1
    exact ⟨h1, Wr.all_next hn (h.lt b (.inr (.inr (.inr e)))) h1⟩
  have za : ∀ b, b < w.heap.size → Zall O ob' z db lw b → Zall O ob z db lw b := zall_back hn
  refine ⟨h.ok, ho, ⟨dv, hf.blk hzb h.z1.1, ownsRow_fr hown hf (fun b hS e => (hd b (by rw [e, hdb])).1 hS), hdb⟩, ⟨Wr.all_next hn hzb.lt h.z1.1, h.z1.2⟩, fun d e => ⟨(hd d e.symm).2, (h.d1 d e).2⟩, fun l e => ⟨(hl l e.symm).2, Nat.lt_of_lt_of_le (h.l1 l e).2 hf.size⟩, fun e he => ?_, ⟨Nat.le_trans h.base.1 hf.size, h.base.2⟩, h.cnt⟩
  have k := (h.ent e he).next (za)
  have k0 := h.ent e he
  exact ⟨⟨hf.blk k.hd.bh k0.hd.s1, hf.blk k.hd.bf k0.hd.s2, k.hd.bx.fr hf k0.hd.s3, k.hd.s1, k.hd.s2, k.hd.s3, k.hd.ok⟩, k.s1, k.s2, k.s3, k.ne⟩
/-- An entry was added to the directory. -/
theorem ZwK.add {w w4 : World} {O : Wr} {z : Nat} {L : List UInt8} {ob db lw : Option Nat} {es : List Ent} {lv : Value} {cl : Bool} {cm : List UInt8} (h : ZwK w O z L ob db lw es lv cl cm) (e : Ent) (hE : EntOk w O ob z db lw e) (v' : Value) (hf : Fr (fun b => some b = db) w w4)
    (hown : w4.ownsRow O.base 151 1 v' (es.length + 1) (es.map Ent.ptr ++ [e.ptr])) (hat : v'.ownBlock = db ∨ ∃ g, v'.ownBlock = some g ∧ w.heap.size ≤ g) (hc : es.length + 1 ≤ 100000) :
    ZwK (w4.setCell ⟨z, 1, none⟩ v') O z L ob v'.ownBlock lw (es ++ [e]) lv cl cm ∧ Fr (fun b => some b = db ∨ b = z) w (w4.setCell ⟨z, 1, none⟩ v') ∧ (∀ b, b < w.heap.size → Zall O ob z v'.ownBlock lw b → Zall O ob z db lw b) := by
  obtain ⟨dv, hzb, hown0, hdb⟩ := h.zb
  have hzl := hzb.lt
  have hz4 := hf.blk hzb (fun e => h.z1.2.1 e)
  have hF : Fr (fun b => some b = db ∨ b = z) w (w4.setCell ⟨z, 1, none⟩ v') := (hf.mono (fun _ _ e => .inl e)).setCell (fun _ => .inr rfl) v'
  have hzv : some z ≠ v'.ownBlock := by
    rcases hat with e | ⟨g, e, hg⟩
    · rw [e]; exact h.z1.2.1
    · rw [e]; intro e2; cases e2; omega
  have za : ∀ b, b < w.heap.size → Zall O ob z v'.ownBlock lw b → Zall O ob z db lw b := fun b hb => by
    rintro (e | e | e | e)
    · exact .inl e
    · exact .inr (.inl e)
    · rcases hat with e2 | ⟨g, e2, hg⟩
      · exact .inr (.inr (.inl (by rw [e, e2])))
      · rw [e2] at e; cases e; omega
    · exact .inr (.inr (.inr e))
  have hS : ∀ k, EntOk w O ob z db lw k → EntOk (w4.setCell ⟨z, 1, none⟩ v') O ob z v'.ownBlock lw k := fun k hk => hk.step hF (fun b e => by
    rcases e with e | e
    · exact .inr (.inr (.inl e))
    · exact .inr (.inl e)) za
  refine ⟨⟨h.ok, h.out.fr hF (fun x hx hS => ?_), ⟨v', hz4.set 1 v', ?_, rfl⟩, ⟨h.z1.1, hzv, h.z1.2.2⟩, ?_, fun l e => ⟨(h.l1 l e).1, Nat.lt_of_lt_of_le (h.l1 l e).2 hF.size⟩, ?_, ⟨Nat.le_trans h.base.1 hF.size, h.base.2⟩, by simpa using hc⟩, hF, za⟩
  · rcases hS with e | e
    · exact (h.d1 x e.symm).1 hx
    · subst e; exact h.z1.1 hx
  · have := ownsRow_fr (hown) (Fr.set1 w4 z 1 v') (fun b hb => by subst hb; exact hzv)
    simpa using this
  · intro d e
    rcases hat with e2 | ⟨g, e2, hg⟩
    · exact h.d1 d (by rw [← e2, e])
    · rw [e2] at e
      have e3 : g = d := Option.some.inj e
      refine ⟨fun k => ?_, fun k => ?_⟩
      · have := h.lt d (.inl k); omega
      · have := h.lt d (.inr (.inr (.inr k))); omega
  · intro k hk
    rcases List.mem_append.1 hk with hk | hk
    · exact hS k (h.ent k hk)
    · cases List.mem_singleton.1 hk; exact hS e hE
/-- The last file is another one. -/
theorem ZwK.setLast {w : World} {O : Wr} {z : Nat} {L : List UInt8} {ob db lw : Option Nat} {es : List Ent} {lv : Value} {cl : Bool} {cm : List UInt8} (h : ZwK w O z L ob db lw es lv cl cm) (lw' : Option Nat) (lv' : Value) 
    (hn : ∀ l, lw' = some l → l ≠ z ∧ some l ≠ db ∧ ¬ O.all ob l ∧ l < w.heap.size) (hE : ∀ e ∈ es, some e.hb ≠ lw' ∧ some e.fh ≠ lw' ∧ ∀ d, e.x.ownBlock = some d → some d ≠ lw') :
    ZwK (w.setCell ⟨z, 2, none⟩ lv') O z L ob db lw' es lv' cl cm := by
  obtain ⟨dv, hzb, hown, hdb⟩ := h.zb
  have hF := Fr.set1 w z 2 lv'
  refine ⟨h.ok, h.out.fr hF (fun x hx hS => by subst hS; exact h.z1.1 hx), ⟨dv, hzb.set 2 lv', ownsRow_fr hown hF (fun b hb e => by subst hb; rw [hdb] at e; exact h.z1.2.1 e), hdb⟩, ⟨h.z1.1, h.z1.2.1, ?_⟩, ?_, ?_, ?_, ⟨Nat.le_trans h.base.1 hF.size, h.base.2⟩, h.cnt⟩
  · intro e; exact (hn z e.symm).1 rfl
  · intro d e
    refine ⟨(h.d1 d e).1, fun e2 => ?_⟩
    exact (hn d e2.symm).2.1 e.symm
  · intro l e; exact ⟨(hn l e).2.2.1, Nat.lt_of_lt_of_le (hn l e).2.2.2 hF.size⟩
  · intro e he
    have k := h.ent e he
    obtain ⟨a1, a2, a3⟩ := hE e he
    have nz : ∀ b, ¬ Zall O ob z db lw b → ¬ b = z := fun b hb e => hb (.inr (.inl e))
    have nw : ∀ b, ¬ Zall O ob z db lw b → some b ≠ lw' → ¬ Zall O ob z db lw' b := fun b hb h2 hc => by
      rcases hc with c | c | c | c
      · exact hb (.inl c)
      · exact hb (.inr (.inl c))
      · exact hb (.inr (.inr (.inl c)))
      · exact h2 c
    exact ⟨⟨hF.blk k.hd.bh (nz _ k.s1), hF.blk k.hd.bf (nz _ k.s2), k.hd.bx.fr hF (fun d hd => nz _ (k.s3 d hd)), k.hd.s1, k.hd.s2, k.hd.s3, k.hd.ok⟩, nw _ k.s1 a1, nw _ k.s2 a2, fun d hd => nw _ (k.s3 d hd) (a3 d hd), k.ne⟩
/-- The last file has turned. -/
theorem ZwK.closed {w w' : World} {O : Wr} {z : Nat} {L : List UInt8} {ob db lw : Option Nat} {es : List Ent} {lv : Value} {cl : Bool} {cm : List UInt8} (h : ZwK w O z L ob db lw es lv cl cm) (hf : Fr (fun b => some b = lw) w w') : ZwK w' O z L ob db lw es lv cl cm := by
  obtain ⟨dv, hzb, hown, hdb⟩ := h.zb
  refine ⟨h.ok, h.out.fr hf (fun x hx hS => (h.l1 x hS.symm).1 hx), ⟨dv, hf.blk hzb h.z1.2.2, ownsRow_fr hown hf (fun b hb e => ?_), hdb⟩, h.z1, h.d1, fun l e => ⟨(h.l1 l e).1, Nat.lt_of_lt_of_le (h.l1 l e).2 hf.size⟩, fun e he => (h.ent e he).fr hf (fun b hb => .inr (.inr (.inr hb))), ⟨Nat.le_trans h.base.1 hf.size, h.base.2⟩, h.cnt⟩
  rw [hdb] at e
  exact (h.d1 b e.symm).2 hb
/-- Another cell of the Writer's own block. -/
theorem ZwK.setZ {w : World} {O : Wr} {z : Nat} {L : List UInt8} {ob db lw : Option Nat} {es : List Ent} {lv : Value} {cl : Bool} {cm : List UInt8} (h : ZwK w O z L ob db lw es lv cl cm) (i : Nat) (v : Value) (cl' : Bool) (cm' : List UInt8)
    (hs : ∀ dv, (zwCells O dv lv cl cm).setIfInBounds i v = zwCells O dv lv cl' cm') : ZwK (w.setCell ⟨z, i, none⟩ v) O z L ob db lw es lv cl' cm' ∧ Fr (· = z) w (w.setCell ⟨z, i, none⟩ v) := by
  obtain ⟨dv, hzb, hown, hdb⟩ := h.zb
  have hF := Fr.set1 w z i v
  have nz : ∀ b, ¬ Zall O ob z db lw b → ¬ b = z := fun b hb e => hb (.inr (.inl e))
  refine ⟨⟨h.ok, h.out.fr hF (fun x hx hS => by subst hS; exact h.z1.1 hx), ⟨dv, by rw [← hs dv]; exact hzb.set i v, ownsRow_fr hown hF (fun b hb e => by subst hb; rw [hdb] at e; exact h.z1.2.1 e), hdb⟩, h.z1, h.d1, fun l e => ⟨(h.l1 l e).1, Nat.lt_of_lt_of_le (h.l1 l e).2 hF.size⟩, fun e he => ?_, ⟨Nat.le_trans h.base.1 hF.size, h.base.2⟩, h.cnt⟩, hF⟩
  have k := h.ent e he
  exact ⟨⟨hF.blk k.hd.bh (nz _ k.s1), hF.blk k.hd.bf (nz _ k.s2), k.hd.bx.fr hF (fun d hd => nz _ (k.s3 d hd)), k.hd.s1, k.hd.s2, k.hd.s3, k.hd.ok⟩, k.s1, k.s2, k.s3, k.ne⟩
/-- The header of the last entry has turned. -/
theorem ZwK.upd {w w' : World} {O : Wr} {z : Nat} {L : List UInt8} {ob db lw : Option Nat} {es : List Ent} {lv : Value} {cl : Bool} {cm : List UInt8} {e e' : Ent} (h : ZwK w O z L ob db lw (es ++ [e]) lv cl cm) (h0 : e'.hb = e.hb ∧ e'.fh = e.fh ∧ e'.x = e.x ∧ e'.off = e.off ∧ e'.raw = e.raw ∧ e'.h.extra = e.h.extra) (hf : Fr (· = e.fh) w w') (hb : Blk w' e.fh (hdrCells e'.h e'.non e'.t0 e'.t1 e'.t2 e'.x e'.c e'.u) 78) (hok : HOk e'.h)
    (ha : ∀ k ∈ es, k.hb ≠ e.fh ∧ k.fh ≠ e.fh ∧ ∀ d, k.x.ownBlock = some d → d ≠ e.fh) (hx : ∀ d, e.x.ownBlock = some d → d ≠ e.fh) : ZwK w' O z L ob db lw (es ++ [e']) lv cl cm := by
  obtain ⟨a1, a2, a3, a4, a5, a6⟩ := h0
  obtain ⟨dv, hzb, hown, hdb⟩ := h.zb
  have hE := h.ent e (List.mem_append_right _ (List.mem_singleton.2 rfl))
  have nz : ∀ b, Zall O ob z db lw b → ¬ b = e.fh := fun b hb k => hE.s2 (k ▸ hb)
  have hp : (es ++ [e']).map Ent.ptr = (es ++ [e]).map Ent.ptr := by simp [Ent.ptr, a1]
  refine ⟨h.ok, h.out.fr hf (fun x hx => nz x (.inl hx)), ⟨dv, hf.blk hzb (nz _ (.inr (.inl rfl))), ?_, hdb⟩, h.z1, h.d1, fun l k => ⟨(h.l1 l k).1, Nat.lt_of_lt_of_le (h.l1 l k).2 hf.size⟩, fun k hk => ?_, ⟨Nat.le_trans h.base.1 hf.size, h.base.2⟩, by have := h.cnt; simpa using this⟩
  · rw [hp]
    have := ownsRow_fr hown hf (fun b hb k => nz b (.inr (.inr (.inl (by rw [k, hdb])))) hb)
    simpa using this
  · rcases List.mem_append.1 hk with hk | hk
    · have k1 := h.ent k (List.mem_append_left _ hk)
      obtain ⟨b1, b2, b3⟩ := ha k hk
      exact ⟨⟨hf.blk k1.hd.bh b1, hf.blk k1.hd.bf b2, k1.hd.bx.fr hf b3, k1.hd.s1, k1.hd.s2, k1.hd.s3, k1.hd.ok⟩, k1.s1, k1.s2, k1.s3, k1.ne⟩
    · cases List.mem_singleton.1 hk
      exact ⟨⟨by rw [a1, a2, a4, a5]; exact hf.blk hE.hd.bh hE.ne, by rw [a2]; exact hb, by rw [a3, a6]; exact hE.hd.bx.fr hf hx, by rw [a1]; exact hE.hd.s1, by rw [a2]; exact hE.hd.s2, by rw [a3]; exact hE.hd.s3, hok⟩, by rw [a1]; exact hE.s1, by rw [a2]; exact hE.s2, by rw [a3]; exact hE.s3, by rw [a1, a2]; exact hE.ne⟩
theorem ZwK.entAt {w : World} {O : Wr} {z : Nat} {L : List UInt8} {ob db lw : Option Nat} {es : List Ent} {lv : Value} {cl : Bool} {cm : List UInt8} (h : ZwK w O z L ob db lw es lv cl cm) (vx : Option Addr) (vcap : Nat) (hz : w.cell? ⟨z, 1, none⟩ = some (.slice vx es.length vcap)) (i : Nat) (hi : i < es.length) :
    ∃ g, vx = some ⟨g, 0, none⟩ ∧ w.cell? ⟨g, i, none⟩ = some (es[i]).ptr ∧ es.length ≤ vcap := by
  obtain ⟨dv, hzb, hown, hdb⟩ := h.zb
  have hown' := hown
  obtain ⟨_, ho⟩ := hown
  have h1 : w.cell? ⟨z, 1, none⟩ = some dv := hzb.cell 1
  rw [hz] at h1
  cases h1
  rcases ho with ⟨_, h0⟩ | ⟨g, cap, cur, hv, _, _, hc, _⟩
  · omega
  · cases hv
    refine ⟨g, rfl, ?_, hc⟩
    have := hown'.cells (g := g) rfl i (es[i]).ptr (by rw [List.getElem?_map, List.getElem?_eq_getElem hi]; rfl)
    rwa [add_at, Nat.zero_add] at this
/-! .. with bytes as they are. -/
theorem LastRaw.fr {S : Nat → Prop} {w w' : World} {O : Wr} {es : List Ent} {lw : Option Nat} {lv : Value} (h : LastRaw w O es lw lv) (hf : Fr S w w') (hS : ∀ l, lw = Option.some l → ¬ S l) : LastRaw w' O es lw lv := by
  cases h with
  | none => exact .none
  | some l e cl hl he => exact .some l e cl (hf.blk hl (hS l rfl)) he
theorem ZwC.lt {w : World} {O : Wr} {z : Nat} {L : List UInt8} {ob db lw : Option Nat} {es : List Ent} {lv : Value} {cl : Bool} {cm : List UInt8} (h : ZwC w O z L ob db lw es lv cl cm) : ∀ b, Zall O ob z db lw b → b < w.heap.size := h.toZwK.lt
theorem ZwC.fr {S : Nat → Prop} {w w' : World} {O : Wr} {z : Nat} {L : List UInt8} {ob db lw : Option Nat} {es : List Ent} {lv : Value} {cl : Bool} {cm : List UInt8} (h : ZwC w O z L ob db lw es lv cl cm) (hf : Fr S w w') (h1 : ∀ b, Zall O ob z db lw b → ¬ S b) (h2 : ∀ e ∈ es, ¬ S e.hb ∧ ¬ S e.fh ∧ ∀ d, e.x.ownBlock = some d → ¬ S d) : ZwC w' O z L ob db lw es lv cl cm :=
  ⟨h.toZwK.fr hf (fun b k => h1 b (k.imp id (fun k => k.imp id .inl))) h2, h.raw, h.last.fr hf fun l e => h1 l (.inr (.inr (.inr e.symm)))⟩
theorem ZwC.next {w w' : World} {O : Wr} {z : Nat} {L : List UInt8} {ob db lw : Option Nat} {es : List Ent} {lv : Value} {cl : Bool} {cm : List UInt8} (h : ZwC w O z L ob db lw es lv cl cm) (hf : Below w.heap.size w w') : ZwC w' O z L ob db lw es lv cl cm :=
  h.fr (Fr.of_below (S := fun _ => False) hf) (fun _ _ => id) (fun _ _ => ⟨id, id, fun _ _ => id⟩)
theorem ZwC.wrote {w w' : World} {O : Wr} {z : Nat} {L L' : List UInt8} {ob ob' db lw : Option Nat} {es : List Ent} {lv : Value} {cl : Bool} {cm : List UInt8} (h : ZwC w O z L ob db lw es lv cl cm) (ho : OutC w' O L' ob') (hn : obNext ob ob' w.heap.size) (hf : Fr (O.all ob) w w') : ZwC w' O z L' ob' db lw es lv cl cm :=
  ⟨h.toZwK.wrote ho hn hf, h.raw, h.last.fr hf fun l e => (h.l1 l e).1⟩
theorem ZwC.add {w w4 : World} {O : Wr} {z : Nat} {L : List UInt8} {ob db lw : Option Nat} {es : List Ent} {lv : Value} {cl : Bool} {cm : List UInt8} (h : ZwC w O z L ob db lw es lv cl cm) (e : Ent) (hE : EntOk w O ob z db lw e) (hr : e.raw = true ∧ (bits .and .u16 e.h.flags 8 != 0) = false) (v' : Value) (hf : Fr (fun b => some b = db) w w4)
    (hown : w4.ownsRow O.base 151 1 v' (es.length + 1) (es.map Ent.ptr ++ [e.ptr])) (hat : v'.ownBlock = db ∨ ∃ g, v'.ownBlock = some g ∧ w.heap.size ≤ g) (hc : es.length + 1 ≤ 100000) :
    ZwC (w4.setCell ⟨z, 1, none⟩ v') O z L ob v'.ownBlock lw (es ++ [e]) lv cl cm ∧ Fr (fun b => some b = db ∨ b = z) w (w4.setCell ⟨z, 1, none⟩ v') ∧ (∀ b, b < w.heap.size → Zall O ob z v'.ownBlock lw b → Zall O ob z db lw b) := by
  obtain ⟨k1, k2, k3⟩ := h.toZwK.add e hE v' hf hown hat hc
  refine ⟨⟨k1, fun k hk => ?_, ?_⟩, k2, k3⟩
  · rcases List.mem_append.1 hk with hk | hk
    · exact h.raw k hk
    · cases List.mem_singleton.1 hk; exact hr
  · have := h.last.fr k2 (fun l e => ?_)
    · cases this with
      | none => exact .none
      | some l k cl hl he => exact .some l k cl hl (List.mem_append_left _ he)
    · rintro (e2 | e2)
      · exact (h.d1 l e2.symm).2 e.symm
      · exact h.z1.2.2 (by rw [← e2, e])
theorem ZwC.setLast {w : World} {O : Wr} {z : Nat} {L : List UInt8} {ob db lw : Option Nat} {es : List Ent} {lv : Value} {cl : Bool} {cm : List UInt8} (h : ZwC w O z L ob db lw es lv cl cm) (lw' : Option Nat) (lv' : Value) (hl : LastRaw w O es lw' lv')
    (hn : ∀ l, lw' = some l → l ≠ z ∧ some l ≠ db ∧ ¬ O.all ob l) (hE : ∀ e ∈ es, some e.hb ≠ lw' ∧ some e.fh ≠ lw' ∧ ∀ d, e.x.ownBlock = some d → some d ≠ lw') :
    ZwC (w.setCell ⟨z, 2, none⟩ lv') O z L ob db lw' es lv' cl cm :=
  ⟨h.toZwK.setLast lw' lv' (fun l e => ⟨(hn l e).1, (hn l e).2.1, (hn l e).2.2, by
    cases hl with
    | none => cases e
    | some l' e' cl' hl' he' => cases e; exact hl'.lt⟩) hE, h.raw, hl.fr (Fr.set1 w z 2 lv') fun l e => (hn l e).1⟩
theorem ZwC.closed {w w' : World} {O : Wr} {z : Nat} {L : List UInt8} {ob db lw : Option Nat} {es : List Ent} {lv : Value} {cl : Bool} {cm : List UInt8} (h : ZwC w O z L ob db lw es lv cl cm) (hf : Fr (fun b => some b = lw) w w') (hl : LastRaw w' O es lw lv) : ZwC w' O z L ob db lw es lv cl cm :=
  ⟨h.toZwK.closed hf, h.raw, hl⟩
end Go.Proofs.Zip
namespace Go.Proofs.Zip
open Go Go.RowKit
/-! prepare: what goes ahead of each entry. -/
theorem eql_fhs {a b : Nat} {w : World} {ca cb : Array Value} (ha : Blk w a ca 78) (hb : Blk w b cb 78) (hne : a ≠ b) : (binOp .eql 69 (.pointer (some ⟨a, 0, none⟩)) (.pointer (some ⟨b, 0, none⟩))).run Tryz.prog w = .ok (.bool false) w := by
  cases hj : Tryz.prog.info? 78 with
  | none => exact absurd hj (by have : (Tryz.prog.info? 78).isSome = true := by kernel_rfl
                                intro h; simp [h] at this)
  | some j =>
    have hz : (Tryz.prog.info? 78).map (·.size) = some 19 := by kernel_rfl
    rw [hj] at hz
    exact run_eql_ptr_other w Tryz.underlying69 hj (by simp at hz; omega) (fun e => hne (by cases e; rfl)) ha hb
/-- What stands behind a Writer's last file: none, one that is closed, or one that is to be closed. -/
inductive LastK (w : World) (lw : Option Nat) (R : World → Prop) : Value → Prop where
  | none : R w → LastK w lw R (.pointer none)
  | shut (l : Nat) : lw = some l → w.cell? ⟨l, 6, none⟩ = some (.bool true) → R w → LastK w lw R (.pointer (some ⟨l, 0, none⟩))
  | opened (l : Nat) : lw = some l → w.cell? ⟨l, 6, none⟩ = some (.bool false) → Calls Tryz.prog 93 #[.pointer (some ⟨l, 0, none⟩)] w (fun e w' => e = .returned .nilIface ∧ Hid (R w')) → LastK w lw R (.pointer (some ⟨l, 0, none⟩))
set_option maxRecDepth 100000 in
set_option maxHeartbeats 2000000 in
theorem prepareK_any (z n : Nat) (lw : Option Nat) (lv : Value) (w : World) (fh : Nat) (R : World → Prop) (c2 : w.cell? ⟨z, 2, none⟩ = some lv) (hl : LastK w lw R lv) (hn : n ≤ 100000) (hRd : ∀ k w1, R w1 → R (w1.drewN k))
    (hR : ∀ w1, R w1 → ∃ vx vcap, w1.cell? ⟨z, 1, none⟩ = some (.slice vx n vcap) ∧ (n ≠ 0 → ∃ g hb1 fh1, vx = some ⟨g, 0, none⟩ ∧ w1.cell? ⟨g, n - 1, none⟩ = some (.pointer (some ⟨hb1, 0, none⟩)) ∧ w1.cell? ⟨hb1, 0, none⟩ = some (.pointer (some ⟨fh1, 0, none⟩)) ∧ (∀ k, (binOp .eql 69 (.pointer (some ⟨fh1, 0, none⟩)) (.pointer (some ⟨fh, 0, none⟩))).run Tryz.prog (w1.drewN k) = .ok (.bool false) (w1.drewN k)))) :
    Calls Tryz.prog 69 #[.pointer (some ⟨z, 0, none⟩), .pointer (some ⟨fh, 0, none⟩)] w fun e w' => e = .returned .nilIface ∧ Hid (R w') := by
  go_enter Tryz.func69, Tryz.ntmps69
  cases hl with
  | none hr =>
    have HR1 := Lib.hid hr
    clear hr
    obtain ⟨vx, vcap, k1, k2⟩ := hR w HR1.out
    by_cases h0 : n = 0
    · have hgd1 : decide ((0 : Int) < (n : Int)) = false := by rw [decide_eq_false_iff_not]; omega
      have hgd2 : decide (0 < n) = false := by rw [decide_eq_false_iff_not]; omega
      clear k2 h0
      go_upto_region 5 with fail
      go_quiet (fail)
      go_wp2
      go_ret
      exact ⟨rfl, Lib.hid (hRd nq _ HR1.out)⟩
    · obtain ⟨g, hb1, fh1, rfl, k3, k4, k5⟩ := k2 h0
      have hgd1 : decide ((0 : Int) < (n : Int)) = true := by rw [decide_eq_true_iff]; omega
      have hgd2 : decide (0 < n) = true := by rw [decide_eq_true_iff]; omega
      have h1' : ((n : Int) - 1) = ((n - 1 : Nat) : Int) := by omega
      have hwr : IntKind.i64.wrap ((n - 1 : Nat) : Int) = ((n - 1 : Nat) : Int) := by rw [IntKind.wrap_i64]; omega
      clear k2 h0
      go_upto_region 5 with fail
      go_quiet (fail)
      go_wp2
      go_ret
      exact ⟨rfl, Lib.hid (hRd nq _ HR1.out)⟩
  | shut l hlw c6 hr =>
    have HR1 := Lib.hid hr
    clear hr hlw
    obtain ⟨vx, vcap, k1, k2⟩ := hR w HR1.out
    by_cases h0 : n = 0
    · have hgd1 : decide ((0 : Int) < (n : Int)) = false := by rw [decide_eq_false_iff_not]; omega
      have hgd2 : decide (0 < n) = false := by rw [decide_eq_false_iff_not]; omega
      clear k2 h0
      go_upto_region 5 with fail
      go_quiet (fail)
      go_wp2
      go_ret
      exact ⟨rfl, Lib.hid (hRd nq _ HR1.out)⟩
    · obtain ⟨g, hb1, fh1, rfl, k3, k4, k5⟩ := k2 h0
      have hgd1 : decide ((0 : Int) < (n : Int)) = true := by rw [decide_eq_true_iff]; omega
      have hgd2 : decide (0 < n) = true := by rw [decide_eq_true_iff]; omega
      have h1' : ((n : Int) - 1) = ((n - 1 : Nat) : Int) := by omega
      have hwr : IntKind.i64.wrap ((n - 1 : Nat) : Int) = ((n - 1 : Nat) : Int) := by rw [IntKind.wrap_i64]; omega
      clear k2 h0
      go_upto_region 5 with fail
      go_quiet (fail)
      go_wp2
      go_ret
      exact ⟨rfl, Lib.hid (hRd nq _ HR1.out)⟩
  | opened l hlw c6 hc =>
    have HCL := Lib.hid hc
    clear hc hlw
    go_wp2_with fail
    refine HCL.out.mono ?_
    rintro e w2 ⟨rfl, HR1⟩
    clear HCL c2 c6
    obtain ⟨vx, vcap, k1, k2⟩ := hR w2 HR1.out
    by_cases h0 : n = 0
    · have hgd1 : decide ((0 : Int) < (n : Int)) = false := by rw [decide_eq_false_iff_not]; omega
      have hgd2 : decide (0 < n) = false := by rw [decide_eq_false_iff_not]; omega
      clear k2 h0
      go_upto_region 5 with fail
      go_quiet (fail)
      go_wp2
      go_ret
      exact ⟨rfl, Lib.hid (hRd nq _ HR1.out)⟩
    · obtain ⟨g, hb1, fh1, rfl, k3, k4, k5⟩ := k2 h0
      have hgd1 : decide ((0 : Int) < (n : Int)) = true := by rw [decide_eq_true_iff]; omega
      have hgd2 : decide (0 < n) = true := by rw [decide_eq_true_iff]; omega
      have h1' : ((n : Int) - 1) = ((n - 1 : Nat) : Int) := by omega
      have hwr : IntKind.i64.wrap ((n - 1 : Nat) : Int) = ((n - 1 : Nat) : Int) := by rw [IntKind.wrap_i64]; omega
      clear k2 h0
      go_upto_region 5 with fail
      go_quiet (fail)
      go_wp2
      go_ret
      exact ⟨rfl, Lib.hid (hRd nq _ HR1.out)⟩
/-- What prepare asks of a Writer. -/
theorem ZwK.prep {w : World} {O : Wr} {z : Nat} {L : List UInt8} {ob db lw : Option Nat} {es : List Ent} {lv : Value} {cl : Bool} {cm : List UInt8} (h : ZwK w O z L ob db lw es lv cl cm) (fh : Nat) (cs : Array Value) (hfh : Blk w fh cs 78) (hne : ∀ e ∈ es, e.fh ≠ fh) :
    ∃ vx vcap, w.cell? ⟨z, 1, none⟩ = some (.slice vx es.length vcap) ∧ (es.length ≠ 0 → ∃ g hb1 fh1, vx = some ⟨g, 0, none⟩ ∧ w.cell? ⟨g, es.length - 1, none⟩ = some (.pointer (some ⟨hb1, 0, none⟩)) ∧ w.cell? ⟨hb1, 0, none⟩ = some (.pointer (some ⟨fh1, 0, none⟩)) ∧ (∀ k, (binOp .eql 69 (.pointer (some ⟨fh1, 0, none⟩)) (.pointer (some ⟨fh, 0, none⟩))).run Tryz.prog (w.drewN k) = .ok (.bool false) (w.drewN k))) := by
  obtain ⟨dv, hzb, hown, hdb⟩ := h.zb
  obtain ⟨vx, vcap, rfl⟩ := own_form hown
  have hz : w.cell? ⟨z, 1, none⟩ = some (.slice vx es.length vcap) := hzb.cell 1
  refine ⟨vx, vcap, hz, fun h0 => ?_⟩
  have hlt : es.length - 1 < es.length := by omega
  obtain ⟨g, hv, hc, _⟩ := h.entAt vx vcap hz (es.length - 1) hlt
  have hm := List.getElem_mem hlt
  have hee := h.ent _ hm
  exact ⟨g, _, (es[es.length - 1]).fh, hv, hc, hee.hd.bh.cell 0, fun n => eql_fhs (w := w.drewN n) (hee.hd.bf.drewN n) (hfh.drewN n) (hne _ hm)⟩
theorem ZwC.lastK {w : World} {O : Wr} {z : Nat} {L : List UInt8} {ob db lw : Option Nat} {es : List Ent} {lv : Value} {cl : Bool} {cm : List UInt8} (h : ZwC w O z L ob db lw es lv cl cm) : LastK w lw (fun w' => ZwC w' O z L ob db lw es lv cl cm ∧ Fr (fun b => some b = lw) w w') lv := by
  have hlast := h.last
  cases hlast with
  | none => exact .none ⟨h, Fr.refl _ _⟩
  | some l e k hl he =>
    have c6 : w.cell? ⟨l, 6, none⟩ = some (.bool k) := hl.cell 6
    cases k with
    | true => exact .shut l rfl c6 ⟨h, Fr.refl _ _⟩
    | false =>
      refine .opened l rfl c6 ?_
      have hee := h.ent e he
      have hnl : ∀ b, ¬ Zall O ob z db (some l) b → l ≠ b := fun b hb e => hb (.inr (.inr (.inr (by rw [e]))))
      have hbh := hee.hd.bh
      rw [(h.raw e he).1] at hbh
      refine (closeRaw_any O l e.hb e.fh e.off e.h e.non e.t0 e.t1 e.t2 e.x e.c e.u w hl hbh hee.hd.bf (h.raw e he).2 (hnl _ hee.s1) (hnl _ hee.s2)).mono ?_
      rintro e' w2 ⟨rfl, h2⟩
      have hf := h2.out.2.mono (T := fun b => some b = some l) (fun i _ h => by rw [h])
      exact ⟨rfl, Lib.hid ⟨h.closed hf (.some l e true h2.out.1 he), hf⟩⟩
theorem prepare_any (O : Wr) (z : Nat) (L : List UInt8) (ob db lw : Option Nat) (es : List Ent) (lv : Value) (w : World) (hZ : Zw w O z L ob db lw es lv) (fh : Nat) (cs : Array Value) (hfh : Blk w fh cs 78) (hne : ∀ e ∈ es, e.fh ≠ fh) (hfl : some fh ≠ lw) :
    Calls Tryz.prog 69 #[.pointer (some ⟨z, 0, none⟩), .pointer (some ⟨fh, 0, none⟩)] w fun e w' => e = .returned .nilIface ∧ Hid (Zw w' O z L ob db lw es lv ∧ Fr (fun b => some b = lw) w w') :=
  prepareK_any z es.length lw lv w fh (fun w' => Zw w' O z L ob db lw es lv ∧ Fr (fun b => some b = lw) w w') (by obtain ⟨dv, hzb, _⟩ := hZ.zb; exact hzb.cell 2) hZ.lastK hZ.cnt
    (fun n w1 h1 => ⟨ZwC.closed h1.1 ((Fr.refl _ w1).drewN n) (h1.1.last.fr (S := fun _ => False) ((Fr.refl _ w1).drewN n) (fun _ _ => id)), h1.2.drewN n⟩)
    (fun w1 h1 => h1.1.toZwK.prep fh cs (h1.2.blk hfh hfl) hne)
end Go.Proofs.Zip
namespace Go.Proofs.Zip
open Go Go.RowKit
/-! CreateRaw. -/
theorem infoPtrH : (Tryz.prog.info? 151).map (fun i => (i.zero, i.size, i.bytes)) = some (some (.pointer none), 1, 8) := by kernel_rfl
/-- 'append(dir, h)' of one pointer. -/
theorem wpList_app_ptr {w : World} {ops : Array Oper} {rest : List Oper} {o : Oper} {a : Act} {Q : Exit → Act → World → Prop} (hgd : o.guard = none) (s x : Operand)
    (ho : o.op = .call { callee := .builtin .append, args := #[s, x], argTypes := #[131, 131] }) (base : Nat) (v : Value) (n : Nat) (ps : List Value) (hs : a.eval s = v) (hown : w.ownsRow base 151 1 v n ps)
    (g : Nat) (p : Value) (hx : a.eval x = .slice (some ⟨g, 0, none⟩) 1 1) (hM : w.cell? ⟨g, 0, none⟩ = some p) (hp : p.oneCell' = true) (hn : n ≤ 100000) (hbase : base ≤ w.heap.size)
    (h : ∀ v' w', w'.ownsRow base 151 1 v' (n + 1) (ps ++ [p]) → Fr (fun b => some b = v.ownBlock) w w' → (v'.ownBlock = v.ownBlock ∨ v'.ownBlock = some w.heap.size) → wpList Tryz.prog ops Q rest (a.put o.dst v') w') : wpList Tryz.prog ops Q (o :: rest) a w := by
  obtain ⟨i0, hi, hz0, hz1, hz2⟩ := info_parts infoPtrH
  refine wpList_append_own_at w hgd s x 131 ho base 151 i0 _ 1 8 Tryz.underlying131 hi hz0 hz1 hz2 rfl (by decide) v n ps hs hown ⟨g, 0, none⟩ 1 1 [p] hx rfl ?_ ?_ (by unfold maxLen; omega) (by omega) hbase ?_
  · intro j u hj
    match j, hj with
    | 0, hj => simp at hj; subst hj; exact hM
  · intro u hu
    simp at hu
    subst hu
    exact hp
  · intro v' w' h1 h2 _ h3
    exact h v' w' h1 (Fr.of_grown h2) h3
/-- What CreateRaw hands back: a directory, or a file. -/
def rawOut : Option Nat → Value
  | none => .iface 156 (.agg #[])
  | some l => .iface 132 (.pointer (some ⟨l, 0, none⟩))
/-- What it leaves. -/
def CrPost (O : Wr) (z : Nat) (L : List UInt8) (ob db lw : Option Nat) (es : List Ent) (fh : Nat) (h : H) (non : Bool) (t0 t1 t2 x : Value) (w : World) (e : Ending) (w' : World) : Prop :=
  ∃ (ob' db' lw' : Option Nat) (lv' : Value) (hb : Nat), e = .returned (.tuple #[rawOut lw', .nilIface]) ∧ Hid ((slash h.name = true ↔ lw' = none) ∧ Zw w' O z (L ++ localL h) ob' db' lw' (es ++ [⟨hb, fh, L.length, true, h, non, t0, t1, t2, x, h.packed, h.size⟩]) lv' ∧ (∀ l, lw' = some l → ∃ cl, Blk w' l (fwCells O hb cl) 163 ∧ cl = false) ∧ Fr (fun b => Zall O ob z db lw b ∨ b = fh) w w' ∧ (∀ b, b < w.heap.size → Zall O ob' z db' lw' b → Zall O ob z db lw b))
set_option maxRecDepth 100000 in
set_option maxHeartbeats 4000000 in
theorem createRaw_any (O : Wr) (z : Nat) (L : List UInt8) (ob db lw : Option Nat) (es : List Ent) (lv : Value) (w : World) (hZ : Zw w O z L ob db lw es lv) (fh : Nat) (h : H) (non : Bool) (t0 t1 t2 x : Value) (c0 u0 : Int) (hfh : Blk w fh (hdrCells h non t0 t1 t2 x c0 u0) 78) (hx : IsBytes w x h.extra) (hok : HOk h) (hdd : (bits .and .u16 h.flags 8 != 0) = false)
    (hne : ∀ e ∈ es, e.fh ≠ fh ∧ e.hb ≠ fh ∧ ∀ d, e.x.ownBlock = some d → d ≠ fh) (s2 : ¬ Zall O ob z db lw fh) (s3 : ∀ d, x.ownBlock = some d → ¬ Zall O ob z db lw d ∧ d ≠ fh) (hlen : L.length ≤ 4294967294) (hcnt : es.length + 1 ≤ 100000) :
    Calls Tryz.prog 52 #[.pointer (some ⟨z, 0, none⟩), .pointer (some ⟨fh, 0, none⟩)] w (CrPost O z L ob db lw es fh h non t0 t1 t2 x w) := by
  have hfl : some fh ≠ lw := fun e => s2 (.inr (.inr (.inr e)))
  have HP := Lib.hid (prepare_any O z L ob db lw es lv w hZ fh _ hfh (fun e he => (hne e he).1) hfl)
  have HF := Lib.hid hfh
  have HX := Lib.hid hx
  have HZ0 := Lib.hid hZ
  have HOK := Lib.hid hok
  have hpk := hok.packed
  have hsz := hok.size
  clear hZ hfh hx hok
  go_enter Tryz.func52, Tryz.ntmps52
  go_wp2_with fail
  refine HP.out.mono ?_
  rintro e w1 ⟨rfl, h1⟩
  have hf1 : Blk w1 fh (hdrCells h non t0 t1 t2 x c0 u0) 78 := h1.out.2.blk HF.out hfl
  have k13 : w1.cell? ⟨fh, 13, none⟩ = some (.int .u32 c0) := hf1.cell 13
  have f13 : w1.frozen? ⟨fh, 13, none⟩ = false := hf1.frozen 13
  have k14 : w1.cell? ⟨fh, 14, none⟩ = some (.int .u32 u0) := hf1.cell 14
  have f14 : w1.frozen? ⟨fh, 14, none⟩ = false := hf1.frozen 14
  have k15 : w1.cell? ⟨fh, 15, none⟩ = some (.int .u64 h.packed) := hf1.cell 15
  have k16 : w1.cell? ⟨fh, 16, none⟩ = some (.int .u64 h.size) := hf1.cell 16
  have m1 : min h.packed 4294967295 = h.packed := by omega
  have m2 : min h.size 4294967295 = h.size := by omega
  have r1 : IntKind.u32.wrap h.packed = h.packed := by rw [IntKind.wrap_u32]; omega
  have r2 : IntKind.u32.wrap h.size = h.size := by rw [IntKind.wrap_u32]; omega
  go_upto_region 6 with fail
  have B2 : Blk (w1.setCell ⟨fh, 13, none⟩ (.int .u32 h.packed)) fh (hdrCells h non t0 t1 t2 x h.packed u0) 78 := hf1.set 13 _
  have B3 : Blk ((w1.setCell ⟨fh, 13, none⟩ (.int .u32 h.packed)).setCell ⟨fh, 14, none⟩ (.int .u32 h.size)) fh (hdrCells h non t0 t1 t2 x h.packed h.size) 78 := B2.set 14 _
  have F2 : Fr (· = fh) w1 ((w1.setCell ⟨fh, 13, none⟩ (.int .u32 h.packed)).setCell ⟨fh, 14, none⟩ (.int .u32 h.size)) := (Fr.set1 w1 fh 13 _).trans (Fr.set1 _ fh 14 _) (fun _ _ h => h)
  clear B2
  generalize (w1.setCell ⟨fh, 13, none⟩ (.int .u32 h.packed)).setCell ⟨fh, 14, none⟩ (.int .u32 h.size) = w2 at B3 F2 ⊢
  have Z2 : Hid (Zw w2 O z L ob db lw es lv) := Lib.hid (h1.out.1.fr F2 (fun b hb e => s2 (e ▸ hb)) (fun e he => ⟨(hne e he).2.1, (hne e he).1, fun d hd => (hne e he).2.2 d hd⟩))
  have F02 : Hid (Fr (fun b => some b = lw ∨ b = fh) w w2) := Lib.hid (h1.out.2.trans2 F2 (fun _ e => .inl e) (fun _ e => .inr e))
  have HB3 := Lib.hid B3
  have o1 : w2.cell? ⟨z, 0, none⟩ = some (.pointer (some ⟨O.cw, 0, none⟩)) := by obtain ⟨dv, hzb, _⟩ := Z2.out.zb; exact hzb.cell 0
  have o2 : w2.cell? ⟨O.cw, 1, none⟩ = some (.int .i64 L.length) := Z2.out.out.cw.cell 1
  have n0 : IntKind.u64.wrap (L.length : Int) = L.length := by rw [IntKind.wrap_u64]; omega
  clear k13 f13 k14 f14 k15 k16 m1 m2 r1 r2 hf1 h1 B3 F2 HF
  go_upto_region 7 with fail
  obtain ⟨dv, hzb, hown, hdb⟩ := Z2.out.zb
  obtain ⟨vx, vcap, rfl⟩ := own_form hown
  have hcnt0 := Z2.out.cnt
  have hbs := Z2.out.base
  have Z3 : Hid (Zw (w2.alloc (.cells #[.pointer (some ⟨fh, 0, none⟩), .int .u64 L.length, .bool true] 153)) O z L ob db lw es lv) := Lib.hid (Z2.out.next ((Below.refl _ _).alloc (Nat.le_refl _) _))
  have F3 : Hid (Fr (fun b => some b = lw ∨ b = fh) w (w2.alloc (.cells #[.pointer (some ⟨fh, 0, none⟩), .int .u64 L.length, .bool true] 153))) := Lib.hid (F02.out.alloc _)
  have BH3 : Hid (Blk (w2.alloc (.cells #[.pointer (some ⟨fh, 0, none⟩), .int .u64 L.length, .bool true] 153)) w2.heap.size #[.pointer (some ⟨fh, 0, none⟩), .int .u64 L.length, .bool true] 153) := Lib.hid (Blk.new _ _ _)
  have BF3 := Lib.hid (HB3.out.alloc (.cells #[.pointer (some ⟨fh, 0, none⟩), .int .u64 L.length, .bool true] 153))
  have hw23 : w2.heap.size + 1 = (w2.alloc (.cells #[.pointer (some ⟨fh, 0, none⟩), .int .u64 L.length, .bool true] 153)).heap.size := by simp
  have ho3 := hown.alloc (.cells #[.pointer (some ⟨fh, 0, none⟩), .int .u64 L.length, .bool true] 153)
  have p1 : (w2.alloc (.cells #[.pointer (some ⟨fh, 0, none⟩), .int .u64 L.length, .bool true] 153)).cell? ⟨z, 1, none⟩ = some (.slice vx es.length vcap) := (hzb.alloc _).cell 1
  generalize (w2.alloc (.cells #[.pointer (some ⟨fh, 0, none⟩), .int .u64 L.length, .bool true] 153)) = w3 at Z3 F3 BH3 BF3 hw23 ho3 p1 ⊢
  have HO3 := Lib.hid ho3
  have HW23 := Lib.hid hw23
  have fz : ∀ x, (w3.alloc x).frozen? ⟨z, 1, none⟩ = false := fun x => by
    obtain ⟨dv, hzb, _⟩ := Z3.out.zb
    exact (hzb.alloc x).frozen 1
  have hO3 : O.base ≤ w3.heap.size := Z3.out.base.1
  have HDB := Lib.hid hdb
  clear ho3 hzb hown o1 o2 n0 hw23 hfl hdb
  have HZL : Hid ((∀ b, Zall O ob z db lw b → b < w2.heap.size) ∧ fh < w2.heap.size) := Lib.hid ⟨Z2.out.lt, HB3.out.lt⟩
  generalize w2.heap.size = hb at BH3 HW23 HZL ⊢
  go_wp2_with (at_builtin; refine wpList_app_ptr rfl _ _ rfl O.base (.slice vx es.length vcap) es.length (es.map Ent.ptr) rfl (HO3.out.alloc _) w3.heap.size (.pointer (some ⟨hb, 0, none⟩)) rfl ((Blk.new _ _ _).cell 0) ?c1 ?c2 ?c3 ?_)
  case c1 => rfl
  case c2 => exact hcnt0
  case c3 => rw [World.size_alloc]; omega
  intro v' w4 own' fr4 at'
  obtain ⟨vy, vcap', rfl⟩ := own_form own'
  have hzl : z < w3.heap.size := by
    obtain ⟨dv, hzb, _⟩ := Z3.out.zb
    exact hzb.lt
  have F34 : Fr (fun b => some b = db) w3 w4 := ((Fr.refl (fun b => some b = db) w3).alloc (.cells #[.pointer (some ⟨hb, 0, none⟩)] 151)).trans2 fr4 (fun _ h => h) (fun b e => by rw [HDB.out] at e; exact e)
  have hat : (Value.slice vy (es.length + 1) vcap').ownBlock = db ∨ ∃ g, (Value.slice vy (es.length + 1) vcap').ownBlock = some g ∧ w3.heap.size ≤ g := by
    rcases at' with e | e
    · exact .inl (e.trans HDB.out)
    · exact .inr ⟨_, e, by simp⟩
  have fz4 : w4.frozen? ⟨z, 1, none⟩ = false := by
    obtain ⟨dv, hzb, _⟩ := Z3.out.zb
    exact (F34.blk hzb (fun e => Z3.out.z1.2.1 e)).frozen 1
  have cz4 : w4.cell? ⟨z, 1, none⟩ = some (.slice vx es.length vcap) := (F34.cell hzl Z3.out.z1.2.1).trans p1
  have HOWN := Lib.hid own'
  have HF34 := Lib.hid F34
  have HAT := Lib.hid hat
  clear own' fr4 at' F34 hat p1 fz HO3
  go_upto_region 8 with fail
  have EE : EntOk w3 O ob z db lw ⟨hb, fh, L.length, true, h, non, t0, t1, t2, x, h.packed, h.size⟩ := by
    have hnb : ¬ Zall O ob z db lw hb := fun k => Nat.lt_irrefl _ (HZL.out.1 hb k)
    refine ⟨⟨BH3.out, BF3.out, HX.out.fr F3.out ?_, fun k => hnb (.inl k), fun k => s2 (.inl k), fun d hd k => (s3 d hd).1 (.inl k), HOK.out⟩, hnb, s2, fun d hd => (s3 d hd).1, fun e => ?_⟩
    · rintro d hd (e | e)
      · exact (s3 d hd).1 (.inr (.inr (.inr e)))
      · exact (s3 d hd).2 e
    · have := HZL.out.2
      exact absurd this (by rw [show fh = hb from e.symm]; exact Nat.lt_irrefl _)
  obtain ⟨Z5, F5, A5⟩ := Z3.out.add _ EE ⟨rfl, hdd⟩ _ HF34.out HOWN.out HAT.out hcnt
  clear EE fz4 cz4 HOWN HF34 HAT HDB
  generalize (Value.slice vy (es.length + 1) vcap').ownBlock = db5 at Z5 F5 A5
  generalize w4.setCell ⟨z, 1, none⟩ (.slice vy (es.length + 1) vcap') = w5 at Z5 F5 ⊢
  have F05 : Hid (Fr (fun b => Zall O ob z db lw b ∨ b = fh) w w5) := Lib.hid (F3.out.trans2 F5 (fun b e => e.imp (fun e => .inr (.inr (.inr e))) id) (fun b e => .inl (e.elim (fun e => .inr (.inr (.inl e))) (fun e => .inr (.inl e)))))
  have HZ5 := Lib.hid Z5
  have HA5 : Hid (∀ b, b < w.heap.size → Zall O ob z db5 lw b → Zall O ob z db lw b) := Lib.hid fun b hb k => A5 b (Nat.lt_of_lt_of_le hb F3.out.size) k
  have hE5 := Z5.ent _ (List.mem_append_right _ (List.mem_singleton.2 rfl))
  have HWH := Lib.hid (writeHeader_any O Z5.ok L ob hb fh L.length h non t0 t1 t2 x h.packed h.size w5 Z5.out hE5.hd hdd (by omega) Z5.base.1)
  have k0 : w5.cell? ⟨z, 0, none⟩ = some (.pointer (some ⟨O.cw, 0, none⟩)) := by obtain ⟨dv, hzb, _⟩ := Z5.zb; exact hzb.cell 0
  clear Z5 F5 A5 hE5 Z3 F3 BH3 BF3 Z2 F02 HB3 HX HZL HW23 hcnt0 hbs hO3 hzl
  go_upto_region 11 with (go_at_call 79; refine HWH.out.mono ?_; rintro e w6 ⟨rfl, ob6, h6⟩)
  have Z6 : Hid (Zw w6 O z (L ++ localL h) ob6 db5 lw (es ++ [⟨hb, fh, L.length, true, h, non, t0, t1, t2, x, h.packed, h.size⟩]) lv) := Lib.hid (HZ5.out.wrote h6.out.1 h6.out.2.1 h6.out.2.2)
  have F06 : Hid (Fr (fun b => Zall O ob z db lw b ∨ b = fh) w w6) := Lib.hid (F05.out.trans2 h6.out.2.2 (fun b e => e) (fun b e => .inl (.inl e)))
  have HA6 : Hid (∀ b, b < w.heap.size → Zall O ob6 z db5 lw b → Zall O ob z db lw b) := Lib.hid fun b hb k => HA5.out b hb (by
    rcases k with k | k
    · exact .inl (Classical.byContradiction fun hc => Wr.all_next h6.out.2.1 (Nat.lt_of_lt_of_le hb F05.out.size) hc k)
    · exact .inr k)
  have hE6 := Z6.out.ent _ (List.mem_append_right _ (List.mem_singleton.2 rfl))
  have k1 : w6.cell? ⟨fh, 0, none⟩ = some (.string (B h.name)) := hE6.hd.bf.cell 0
  have k2 : w6.cell? ⟨z, 0, none⟩ = some (.pointer (some ⟨O.cw, 0, none⟩)) := by obtain ⟨dv, hzb, _⟩ := Z6.out.zb; exact hzb.cell 0
  have k3 : w6.cell? ⟨z, 2, none⟩ = some lv := by obtain ⟨dv, hzb, _⟩ := Z6.out.zb; exact hzb.cell 2
  have k4 : ∀ x, (w6.alloc x).cell? ⟨z, 2, none⟩ = some lv := fun x => by obtain ⟨dv, hzb, _⟩ := Z6.out.zb; exact (hzb.alloc x).cell 2
  have k5 : ∀ x, (w6.alloc x).frozen? ⟨z, 2, none⟩ = false := fun x => by obtain ⟨dv, hzb, _⟩ := Z6.out.zb; exact (hzb.alloc x).frozen 2
  have k6 : w6.frozen? ⟨z, 2, none⟩ = false := by obtain ⟨dv, hzb, _⟩ := Z6.out.zb; exact hzb.frozen 2
  have hnm := HOK.out.name
  have HSX : Hid (Calls Tryz.prog 77 #[.string (B h.name), .string "/".toUTF8] w6 fun e w' => e = .returned (.bool (slash h.name)) ∧ w6 = w') := Lib.hid ((Tryz.strings_HasSuffix (B h.name) "/".toUTF8 w6 (by rw [size_B]; omega)).mono (by
    rintro e w' ⟨rfl, rfl⟩
    refine ⟨?_, rfl⟩
    rw [data_B]
    rfl))
  clear h6 HWH HZ5 F05 HA5 hE6 k0
  have NOE : Hid (∀ l, w6.heap.size ≤ l → (l ≠ z ∧ some l ≠ db5 ∧ ¬ O.all ob6 l) ∧ (∀ e ∈ (es ++ [⟨hb, fh, L.length, true, h, non, t0, t1, t2, x, h.packed, h.size⟩] : List Ent), some (Ent.hb e) ≠ some l ∧ some (Ent.fh e) ≠ some l ∧ ∀ d, (Ent.x e).ownBlock = some d → some d ≠ some l)) := Lib.hid fun l hl => by
    refine ⟨⟨fun e => ?_, fun e => ?_, fun e => ?_⟩, fun e he => ?_⟩
    · have := Z6.out.lt z (.inr (.inl rfl)); omega
    · have := Z6.out.lt l (.inr (.inr (.inl e))); omega
    · have := Z6.out.lt l (.inl e); omega
    · have k := (Z6.out.ent e he).hd
      have a1 := k.bh.lt
      have a2 := k.bf.lt
      refine ⟨fun e => ?_, fun e => ?_, fun d hd e => ?_⟩
      · cases e; omega
      · cases e; omega
      · cases e; have := k.bx.lt _ hd; omega
  cases hsl : slash h.name with
  | true =>
    rw [hsl] at HSX
    have HSL := Lib.hid hsl
    have FZ := Z6.out.setLast none (.pointer none) .none (fun l e => by cases e) (fun e _ => ⟨by simp, by simp, fun d _ => by simp⟩)
    have FIN : Hid (Zw (w6.setCell ⟨z, 2, none⟩ (.pointer none)) O z (L ++ localL h) ob6 db5 none (es ++ [⟨hb, fh, L.length, true, h, non, t0, t1, t2, x, h.packed, h.size⟩]) (.pointer none) ∧ Fr (fun b => Zall O ob z db lw b ∨ b = fh) w (w6.setCell ⟨z, 2, none⟩ (.pointer none))) := Lib.hid ⟨FZ, F06.out.trans2 (Fr.set1 w6 z 2 _) (fun _ e => e) (fun b e => .inl (.inr (.inl e)))⟩
    have A7 : Hid (∀ b, b < w.heap.size → Zall O ob6 z db5 none b → Zall O ob z db lw b) := Lib.hid fun b hb k => HA6.out b hb (by
      rcases k with k | k | k | k
      · exact .inl k
      · exact .inr (.inl k)
      · exact .inr (.inr (.inl k))
      · cases k)
    clear FZ F06 HA6 NOE Z6 k2 k4 k5 hsl
    go_wp2_with (go_at_call 77; refine HSX.out.mono ?_; rintro e w7 ⟨rfl, rfl⟩)
    go_ret2
    exact ⟨ob6, db5, none, .pointer none, hb, rfl, Lib.hid ⟨by simp [HSL.out], FIN.out.1, (fun l e => by cases e), FIN.out.2, A7.out⟩⟩
  | false =>
    rw [hsl] at HSX
    have HSL := Lib.hid hsl
    have hz6 : z < w6.heap.size := Z6.out.lt z (.inr (.inl rfl))
    have Z7 := Z6.out.next ((Below.refl _ w6).alloc (Nat.le_refl _) (.cells (fwCells O hb false) 163))
    have FZ := Z7.setLast (some w6.heap.size) (.pointer (some ⟨w6.heap.size, 0, none⟩)) (.some w6.heap.size _ false (Blk.new _ _ _) (List.mem_append_right _ (List.mem_singleton.2 rfl))) (fun l e => by cases e; exact (NOE.out _ (Nat.le_refl _)).1) (NOE.out _ (Nat.le_refl _)).2
    have FIN : Hid (Zw ((w6.alloc (.cells (fwCells O hb false) 163)).setCell ⟨z, 2, none⟩ (.pointer (some ⟨w6.heap.size, 0, none⟩))) O z (L ++ localL h) ob6 db5 (some w6.heap.size) (es ++ [⟨hb, fh, L.length, true, h, non, t0, t1, t2, x, h.packed, h.size⟩]) (.pointer (some ⟨w6.heap.size, 0, none⟩)) ∧ Fr (fun b => Zall O ob z db lw b ∨ b = fh) w ((w6.alloc (.cells (fwCells O hb false) 163)).setCell ⟨z, 2, none⟩ (.pointer (some ⟨w6.heap.size, 0, none⟩))) ∧ Blk ((w6.alloc (.cells (fwCells O hb false) 163)).setCell ⟨z, 2, none⟩ (.pointer (some ⟨w6.heap.size, 0, none⟩))) w6.heap.size (fwCells O hb false) 163) :=
      Lib.hid ⟨FZ, (F06.out.alloc _).trans2 (Fr.set1 _ z 2 _) (fun _ e => e) (fun b e => .inl (.inr (.inl e))), (Blk.new _ _ _).set_ne (a := ⟨z, 2, none⟩) (by show w6.heap.size ≠ z; omega) _⟩
    have A7 : Hid (∀ b, b < w.heap.size → Zall O ob6 z db5 (some w6.heap.size) b → Zall O ob z db lw b) := Lib.hid fun b hb k => HA6.out b hb (by
      rcases k with k | k | k | k
      · exact .inl k
      · exact .inr (.inl k)
      · exact .inr (.inr (.inl k))
      · have := F06.out.size
        cases k; omega)
    clear FZ F06 HA6 NOE Z6 Z7 k3 k6 hsl hz6
    go_wp2_with (go_at_call 77; refine HSX.out.mono ?_; rintro e w7 ⟨rfl, rfl⟩)
    go_ret2
    exact ⟨ob6, db5, some w6.heap.size, _, hb, rfl, Lib.hid ⟨by simp [HSL.out], FIN.out.1, (fun l e => by cases e; exact ⟨false, FIN.out.2.2, rfl⟩), FIN.out.2.1, A7.out⟩⟩
end Go.Proofs.Zip
