/- A part of a proof over the given program: Cs. Nothing is assumed here. -/
import Derived.Test.YtidmhfhfcoljeaaGreatDoorZWc
import Derived.Test.YtidmhfhfcoljeaaGreatDoorZWd
namespace Go.Proofs.Zip
open Go Go.RowKit
/-! A Writer that counts and sums up: its states. -/
/-- A piece with a descriptor. -/
abbrev cookP (h : H) (D : List UInt8) : Pc := ⟨h, D, descL (crc D) D.length, h.fin D⟩
/-- An entry with what is known of its content. -/
abbrev Ent.fin (e : Ent) (D : List UInt8) : Ent := { e with h := e.h.fin D, c := D.length, u := D.length }
/-- All files are closed. -/
structure ZwD0 (C0 : Nat) (w : World) (O : Wr) (z : Nat) (ps : List Pc) (ob db lw : Option Nat) (es : List Ent) (lv : Value) (cm : List UInt8) : Prop where
  zk : ZwK w O z (pcsL ps) ob db lw es lv false cm
  m : Match es ps
  lo : C0 ≤ O.base ∧ ∀ b, Zall O ob z db lw b → C0 ≤ b
/-- The last file is open; D was written to it. -/
structure ZwD1 (C0 : Nat) (w : World) (O : Wr) (z : Nat) (ps : List Pc) (D : List UInt8) (ob db : Option Nat) (l rc np cc ch lo : Nat) (es : List Ent) (e : Ent) (cm : List UInt8) : Prop where
  zk : ZwK w O z (pcsL ps ++ localL e.h ++ D) ob db (some l) (es ++ [e]) (.pointer (some ⟨l, 0, none⟩)) false cm
  k : Ckw w O l e.hb rc np cc ch lo D false
  raw : e.raw = false
  fl : (bits .and .u16 e.h.flags 8 != 0) = true
  m : Match es ps
  off : e.off = (pcsL ps).length
  win : ∀ b, Win lo rc b → ¬ O.all ob b ∧ b ≠ z ∧ some b ≠ db
  rl : rc < w.heap.size
  wE : ∀ k ∈ es ++ [e], k.hb < lo ∧ k.fh < lo ∧ ∀ d, k.x.ownBlock = some d → d < lo
  up : ∀ k ∈ es, k.hb ≠ e.fh ∧ k.fh ≠ e.fh ∧ ∀ d, k.x.ownBlock = some d → d ≠ e.fh
  ux : ∀ d, e.x.ownBlock = some d → d ≠ e.fh
  lo : C0 ≤ O.base ∧ C0 ≤ lo ∧ C0 ≤ e.fh ∧ ∀ b, Zall O ob z db (some l) b → C0 ≤ b
  ok : D.length ≤ 4294967294 → HOk (e.h.fin D)
theorem ZwD0.next {C0 : Nat} {w w' : World} {O : Wr} {z : Nat} {ps : List Pc} {ob db lw : Option Nat} {es : List Ent} {lv : Value} {cm : List UInt8} (h : ZwD0 C0 w O z ps ob db lw es lv cm) (hf : Below w.heap.size w w') : ZwD0 C0 w' O z ps ob db lw es lv cm := ⟨h.zk.next hf, h.m, h.lo⟩
theorem ZwD1.next {C0 : Nat} {w w' : World} {O : Wr} {z : Nat} {ps : List Pc} {D : List UInt8} {ob db : Option Nat} {l rc np cc ch lo : Nat} {es : List Ent} {e : Ent} {cm : List UInt8} (h : ZwD1 C0 w O z ps D ob db l rc np cc ch lo es e cm) (hf : Below w.heap.size w w') : ZwD1 C0 w' O z ps D ob db l rc np cc ch lo es e cm :=
  ⟨h.zk.next hf, h.k.fr (Fr.of_below (S := fun _ => False) hf) (fun _ _ => id), h.raw, h.fl, h.m, h.off, h.win, Nat.lt_of_lt_of_le h.rl hf.size, h.wE, h.up, h.ux, h.lo, h.ok⟩
/-- The state between the calls. -/
inductive ZwS (C0 : Nat) (w : World) (O : Wr) (z : Nat) (cm : List UInt8) : List Pc → Option Nat → Value → Prop where
  | shut (ps : List Pc) (ob db : Option Nat) (es : List Ent) : ZwD0 C0 w O z ps ob db none es (.pointer none) cm → ZwS C0 w O z cm ps none (.pointer none)
  | opened (ps : List Pc) (D : List UInt8) (ob db : Option Nat) (l rc np cc ch lo : Nat) (es : List Ent) (e : Ent) : ZwD1 C0 w O z ps D ob db l rc np cc ch lo es e cm → ZwS C0 w O z cm (ps ++ [cookP e.h D]) (some l) (.pointer (some ⟨l, 0, none⟩))
theorem ZwS.next {C0 : Nat} {w w' : World} {O : Wr} {z : Nat} {cm : List UInt8} {ps : List Pc} {lw : Option Nat} {lv : Value} (h : ZwS C0 w O z cm ps lw lv) (hf : Below w.heap.size w w') : ZwS C0 w' O z cm ps lw lv := by
  cases h with
  | shut ps ob db es k => exact .shut ps ob db es (k.next hf)
  | opened ps D ob db l rc np cc ch lo es e k => exact .opened ps D ob db l rc np cc ch lo es e (k.next hf)
theorem pcsL_cook (ps : List Pc) (h : H) (D : List UInt8) : pcsL (ps ++ [cookP h D]) = pcsL ps ++ localL h ++ D ++ descL (crc D) D.length := by
  simp [Pc.text, pcsL, List.append_assoc]
/-- The last file is closed. -/
theorem ZwD1.close {C0 : Nat} {w : World} {O : Wr} {z : Nat} {ps : List Pc} {D : List UInt8} {ob db : Option Nat} {l rc np cc ch lo : Nat} {es : List Ent} {e : Ent} {cm : List UInt8} (h : ZwD1 C0 w O z ps D ob db l rc np cc ch lo es e cm) (hD : D.length ≤ 4294967294) (hlen : (pcsL ps ++ localL e.h ++ D).length ≤ 140737488155328) :
    Calls Tryz.prog 93 #[.pointer (some ⟨l, 0, none⟩)] w fun r w' => r = .returned .nilIface ∧ Hid ((∃ ob', ZwD0 C0 w' O z (ps ++ [cookP e.h D]) ob' db (some l) (es ++ [e.fin D]) (.pointer (some ⟨l, 0, none⟩)) cm ∧ ∀ b, b < w.heap.size → Zall O ob' z db (some l) b → Zall O ob z db (some l) b) ∧ Fr (fun b => b = l ∨ b = e.fh ∨ O.all ob b) w w') := by
  have hE := h.zk.ent e (List.mem_append_right _ (List.mem_singleton.2 rfl))
  have hbh := hE.hd.bh
  rw [h.raw] at hbh
  have hw := h.wE e (List.mem_append_right _ (List.mem_singleton.2 rfl))
  refine (closeCook_any O h.zk.ok l e.hb e.fh rc np cc ch lo D e.off e.h e.non e.t0 e.t1 e.t2 e.x e.c e.u _ ob w h.zk.out h.k hbh hE.hd.bf hw.2.1 hE.ne hD h.fl (by omega) h.zk.base.1 (fun b hb => (h.win b hb).1) hE.hd.s2 hE.hd.s1).mono ?_
  rintro r w' ⟨rfl, ob', w1, hh⟩
  obtain ⟨f1, b1, w2, f2, b2, o3, n3, f3⟩ := hh.out
  have Z1 := h.zk.closed (f1.mono (T := fun b => some b = some l) (fun _ _ k => by rw [k]))
  have Z2 := Z1.upd (e' := e.fin D) ⟨rfl, rfl, rfl, rfl, rfl, rfl⟩ f2 b2 (h.ok hD) h.up h.ux
  have Z3 := Z2.wrote o3 n3 f3
  refine ⟨rfl, Lib.hid ⟨⟨ob', ⟨by rw [pcsL_cook]; exact Z3, h.m.snoc _ _ rfl h.off, h.lo.1, fun b hb => ?_⟩, fun b hb k => zall_back n3 b (Nat.lt_of_lt_of_le hb (Nat.le_trans f1.size f2.size)) k⟩, ?_⟩⟩
  · by_cases hl : b < w2.heap.size
    · exact h.lo.2.2.2 b (zall_back n3 b hl hb)
    · have h1 := h.lo.2.2.2 z (.inr (.inl rfl))
      have h2 := Z2.lt z (.inr (.inl rfl))
      omega
  · refine (f1.mono (fun _ _ k => .inl k)).trans2 (f2.trans2 f3 (U := fun b => b = e.fh ∨ O.all ob b) (fun _ k => .inl k) (fun _ k => .inr k)) (fun _ k => k) (fun _ k => .inr k)
/-- What the next call finds. -/
theorem ZwS.lastK {C0 : Nat} {w0 w : World} {O : Wr} {z : Nat} {cm : List UInt8} {ps : List Pc} {lw : Option Nat} {lv : Value} (h : ZwS C0 w0 O z cm ps lw lv) (hb : Below w0.heap.size w0 w) (hsz : ∀ p ∈ ps, p.data.length ≤ 4294967294) (hlen : (pcsL ps).length ≤ 4294967294) :
    w.cell? ⟨z, 2, none⟩ = some lv ∧ z < w0.heap.size ∧ C0 ≤ z ∧ C0 ≤ O.base ∧ ∃ (db : Option Nat) (es : List Ent) (S : Nat → Prop), Match es ps ∧ (∀ b, S b → C0 ≤ b ∧ b < w0.heap.size) ∧ (∀ e ∈ es, e.hb < w0.heap.size ∧ e.fh < w0.heap.size ∧ ∀ d, e.x.ownBlock = some d → d < w0.heap.size) ∧ LastK w lw (fun w' => (∃ ob, ZwD0 C0 w' O z ps ob db lw es lv cm ∧ ∀ b, b < w.heap.size → Zall O ob z db lw b → b < w0.heap.size) ∧ Fr S w w') lv := by
  cases h with
  | shut ps ob db es k0 =>
    have k := k0.next hb
    refine ⟨?_, k0.zk.lt z (.inr (.inl rfl)), k.lo.2 z (.inr (.inl rfl)), k.lo.1, db, es, fun _ => False, k.m, fun _ e => e.elim, fun e he => ?_, .none ⟨⟨ob, k, fun b _ hb => k0.zk.lt b hb⟩, Fr.refl _ _⟩⟩
    · obtain ⟨dv, hzb, _⟩ := k.zk.zb
      exact hzb.cell 2
    · have hE := (k0.zk.ent e he).hd
      exact ⟨hE.bh.lt, hE.bf.lt, hE.bx.lt⟩
  | opened ps D ob db l rc np cc ch lo es e k0 =>
    have k := k0.next hb
    have hE := k0.zk.ent e (List.mem_append_right _ (List.mem_singleton.2 rfl))
    have hpl : (pcsL ps ++ localL e.h ++ D).length ≤ 4294967294 := by
      rw [pcsL_cook, List.length_append] at hlen
      omega
    refine ⟨?_, k0.zk.lt z (.inr (.inl rfl)), k.lo.2.2.2 z (.inr (.inl rfl)), k.lo.1, db, es ++ [e.fin D], _, k.m.snoc _ _ rfl k.off, ?_, fun q hq => ?_, .opened l rfl (k.k.bl.cell 6) ((k.close (hsz (cookP e.h D) (List.mem_append_right _ (List.mem_singleton.2 rfl))) (by omega)).mono fun r w' h => ⟨h.1, Lib.hid ⟨⟨h.2.out.1.choose, h.2.out.1.choose_spec.1, fun b hb hz => k0.zk.lt b (h.2.out.1.choose_spec.2 b hb hz)⟩, h.2.out.2⟩⟩)⟩
    · obtain ⟨dv, hzb, _⟩ := k.zk.zb
      exact hzb.cell 2
    · rintro b (e2 | e2 | e2)
      · subst e2
        exact ⟨k.lo.2.2.2 _ (.inr (.inr (.inr rfl))), k0.k.bl.lt⟩
      · subst e2
        exact ⟨k.lo.2.2.1, hE.hd.bf.lt⟩
      · exact ⟨k.lo.2.2.2 _ (.inl e2), k0.zk.lt _ (.inl e2)⟩
    · rcases List.mem_append.1 hq with hq | hq
      · have hE := (k0.zk.ent q (List.mem_append_left _ hq)).hd
        exact ⟨hE.bh.lt, hE.bf.lt, hE.bx.lt⟩
      · cases List.mem_singleton.1 hq
        exact ⟨hE.hd.bh.lt, hE.hd.bf.lt, hE.hd.bx.lt⟩
/-- Bytes are written to a new file. -/
theorem ZwD1.write {C0 : Nat} {w : World} {O : Wr} {z : Nat} {ps : List Pc} {ob db : Option Nat} {l rc np cc ch lo : Nat} {es : List Ent} {e : Ent} {cm : List UInt8} (h : ZwD1 C0 w O z ps [] ob db l rc np cc ch lo es e cm) (d cap : Nat) (M : List UInt8) (hd : d < w.heap.size) (hcap : M.length ≤ cap) (hM : w.rangeAt d 0 (u8s M)) (hs : ¬ O.all ob d) (hsd : ¬ Win lo rc d) (hlen : (pcsL ps ++ localL e.h).length + M.length ≤ 140737488355328) :
    Calls Tryz.prog 203 #[.pointer (some ⟨l, 0, none⟩), .slice (some ⟨d, 0, none⟩) M.length cap] w fun r w' => r = .returned (.tuple #[.int .i64 M.length, .nilIface]) ∧ Hid ((∃ ob', ZwD1 C0 w' O z ps M ob' db l rc np cc ch lo es e cm) ∧ Fr (fun b => C0 ≤ b) w w') := by
  have hE := h.zk.ent e (List.mem_append_right _ (List.mem_singleton.2 rfl))
  have hbh := hE.hd.bh
  rw [h.raw] at hbh
  have hz0 := h.zk
  rw [List.append_nil] at hz0
  refine (fwCook_any O h.zk.ok l e.hb rc np cc ch lo d cap _ _ _ M ob w h.k hbh hz0.out hd hcap hM hs hsd (fun b hb => (h.win b hb).1) hlen h.zk.base.1).mono ?_
  rintro r w' ⟨rfl, ob', hh⟩
  obtain ⟨a1, a2, a3, a4⟩ := hh.out
  have hO : ∀ b, O.all ob b → b < w.heap.size := fun b hb => h.zk.lt b (.inl hb)
  have nx : ∀ b, b < w.heap.size → O.all ob' b → O.all ob b := fun b hb k => Classical.byContradiction fun hc => Wr.all_next a2 hb hc k
  have Z : ZwK w' O z (pcsL ps ++ localL e.h ++ M) ob' db (some l) (es ++ [e]) (.pointer (some ⟨l, 0, none⟩)) false cm := by
    obtain ⟨dv, hzb, hown, hdb⟩ := hz0.zb
    have nS : ∀ b, b = z ∨ some b = db → ¬ (O.all ob b ∨ Win lo rc b) := by
      rintro b (e2 | e2) (e3 | e3)
      · subst e2; exact hz0.z1.1 e3
      · subst e2; exact (h.win _ e3).2.1 rfl
      · exact (hz0.d1 b e2.symm).1 e3
      · exact (h.win _ e3).2.2 e2
    have nE : ∀ b, ¬ Zall O ob z db (some l) b → b < lo → ¬ (O.all ob b ∨ Win lo rc b) := by
      rintro b h1 h2 (e3 | e3)
      · exact h1 (.inl e3)
      · have := e3.1; omega
    have nb : ∀ b, b < w.heap.size → ¬ O.all ob b → ¬ O.all ob' b := fun b hb hn k => hn (nx b hb k)
    have hll := (h.zk.l1 l rfl)
    refine ⟨hz0.ok, a1, ⟨dv, a4.blk hzb (nS _ (.inl rfl)), ownsRow_fr hown a4 (fun b hb k => nS b (.inr (by rw [k, hdb])) hb), hdb⟩, ⟨nb _ hzb.lt hz0.z1.1, hz0.z1.2⟩, fun d e2 => ⟨nb _ (hz0.lt d (.inr (.inr (.inl e2.symm)))) (hz0.d1 d e2).1, (hz0.d1 d e2).2⟩, fun l' e2 => by cases e2; exact ⟨nb _ hll.2 hll.1, Nat.lt_of_lt_of_le hll.2 a4.size⟩, fun k hk => ?_, ⟨Nat.le_trans hz0.base.1 a4.size, hz0.base.2⟩, hz0.cnt⟩
    have k1 := hz0.ent k hk
    obtain ⟨b1, b2, b3⟩ := h.wE k hk
    have zb : ∀ b, b < w.heap.size → ¬ Zall O ob z db (some l) b → ¬ Zall O ob' z db (some l) b := fun b hb hn k => hn (zall_back a2 b hb k)
    exact ⟨⟨a4.blk k1.hd.bh (nE _ k1.s1 b1), a4.blk k1.hd.bf (nE _ k1.s2 b2), k1.hd.bx.fr a4 (fun d hd => nE _ (k1.s3 d hd) (b3 d hd)), nb _ k1.hd.bh.lt k1.hd.s1, nb _ k1.hd.bf.lt k1.hd.s2, fun d hd => nb _ (k1.hd.bx.lt d hd) (k1.hd.s3 d hd), k1.hd.ok⟩, zb _ k1.hd.bh.lt k1.s1, zb _ k1.hd.bf.lt k1.s2, fun d hd => zb _ (k1.hd.bx.lt d hd) (k1.s3 d hd), k1.ne⟩
  refine ⟨rfl, Lib.hid ⟨⟨ob', ⟨Z, a3, h.raw, h.fl, h.m, h.off, fun b hb => ⟨fun k => (h.win b hb).1 (nx b (by have := hb.2; have := h.rl; omega) k), (h.win b hb).2⟩, Nat.lt_of_lt_of_le h.rl a4.size, h.wE, h.up, h.ux, ⟨h.lo.1, h.lo.2.1, h.lo.2.2.1, fun b hb => ?_⟩, fun hM => ?_⟩⟩, a4.mono (fun b hb k => ?_)⟩⟩
  · by_cases hl : b < w.heap.size
    · exact h.lo.2.2.2 b (zall_back a2 b hl hb)
    · have h1 := h.lo.2.2.2 z (.inr (.inl rfl))
      have h2 := h.zk.lt z (.inr (.inl rfl))
      omega
  · have h0 := h.ok (by simp)
    exact ⟨h0.creator, h0.reader, h0.flags, h0.method, h0.time, h0.date, ⟨by show (0 : Int) ≤ ((Zip.crc M : Nat) : Int); omega, by have := crc_lt M; show ((Zip.crc M : Nat) : Int) ≤ 4294967295; omega⟩, ⟨by show (0 : Int) ≤ (M.length : Int); omega, by show (M.length : Int) ≤ 4294967294; omega⟩, ⟨by show (0 : Int) ≤ (M.length : Int); omega, by show (M.length : Int) ≤ 4294967294; omega⟩, h0.ext, h0.name, h0.comment, h0.extra⟩
  · rcases k with k | k
    · exact h.lo.2.2.2 b (.inl k)
    · have := h.lo.2.1; have := k.1; omega
/-- A Writer that is to be ended. -/
theorem ZwS.endK {C0 : Nat} {w : World} {O : Wr} {z : Nat} {cm : List UInt8} {ps : List Pc} {lw : Option Nat} {lv : Value} (h : ZwS C0 w O z cm ps lw lv) (hsz : ∀ p ∈ ps, p.data.length ≤ 4294967294) (hlen : (pcsL ps).length ≤ 4294967294) : EndK C0 w O z ps cm := by
  obtain ⟨h1, h2, h3, h4, db, es, S, hm, hS, _, hk⟩ := h.lastK (Below.refl _ _) hsz hlen
  refine ⟨⟨h4, h3, h2⟩, lw, lv, _, h1, hk, db, es, hm, fun w1 h => ?_⟩
  obtain ⟨ob, k, _⟩ := h.1
  exact ⟨ob, k.zk, h.2.mono (fun b _ e => (hS b e).1), fun b _ e => k.lo.2 b e⟩
theorem ZwS.comment {C0 : Nat} {w : World} {O : Wr} {z : Nat} {cm : List UInt8} {ps : List Pc} {lw : Option Nat} {lv : Value} (h : ZwS C0 w O z cm ps lw lv) (c : List UInt8) : w.cell? ⟨z, 5, none⟩ = some (.string (B cm)) ∧ w.frozen? ⟨z, 5, none⟩ = false ∧ O.Ok ∧ ZwS C0 (w.setCell ⟨z, 5, none⟩ (.string (B c))) O z c ps lw lv := by
  cases h with
  | shut ps ob db es k =>
    obtain ⟨Z2, F2⟩ := k.zk.setZ 5 (.string (B c)) false c (fun _ => rfl)
    obtain ⟨dv, hzb, _⟩ := k.zk.zb
    exact ⟨hzb.cell 5, hzb.frozen 5, k.zk.ok, .shut ps ob db es ⟨Z2, k.m, k.lo⟩⟩
  | opened ps D ob db l rc np cc ch lo es e k =>
    obtain ⟨Z2, F2⟩ := k.zk.setZ 5 (.string (B c)) false c (fun _ => rfl)
    obtain ⟨dv, hzb, _⟩ := k.zk.zb
    exact ⟨hzb.cell 5, hzb.frozen 5, k.zk.ok, .opened ps D ob db l rc np cc ch lo es e ⟨Z2, k.k.fr F2 (fun b hb => (k.win b hb).2.1), k.raw, k.fl, k.m, k.off, k.win, Nat.lt_of_lt_of_le k.rl F2.size, k.wE, k.up, k.ux, k.lo, k.ok⟩⟩
end Go.Proofs.Zip
