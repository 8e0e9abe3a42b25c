/- A part of a proof over the given program: InA, In. Nothing is assumed here. -/
import Derived.Test.YtidmhfhfcoljeaaGreatDoorZL
import Derived.Test.YtidmhfhfcoljeaaGreatDoorZA
import Derived.Test.YtidmhfhfcoljeaaGreatDoorZK
import Derived.Test.YtidmhfhfcoljeaaGreatDoorZE
import Derived.Test.YtidmhfhfcoljeaaGreatDoorZM
import Derived.Maps.AppendAt
import Derived.Deep.DeepCutAuto
import Derived.Deep.CutBlock
namespace Go.Proofs.Zip
open Go Go.RowKit
theorem Env.drew {w : World} {N0 : Nat} {E : Errs} (h : Env w N0 E) : Env w.drew N0 E := h.below (Below.refl _ _).drew
/-- The texts of headers. -/
def catL (hs : List (H × Nat)) : List UInt8 := hs.flatMap fun x => centralL x.1 x.2
theorem catL_cons (x : H × Nat) (hs : List (H × Nat)) : catL (x :: hs) = centralL x.1 x.2 ++ catL hs := by simp [catL]
/-- One file of the reader rb over the text a; row: the block of the files' row. -/
def FileIs (w : World) (rb a base C : Nat) (row : Option Nat) (p : Value) (x : H × Nat) : Prop :=
  ∃ f t0 t1 t2 xv, p = .pointer (some ⟨f, 0, none⟩) ∧ fileAt w f x.1 (nonU x.1) t0 t1 t2 xv rb a (x.2 + base) ∧ C ≤ f ∧ some f ≠ row ∧
    ∃ d o cap, xv = .slice (some ⟨d, o, none⟩) x.1.extra.length cap ∧ C ≤ d ∧ d < w.heap.size ∧ some d ≠ row ∧ w.rangeAt d o (u8s x.1.extra) ∧ x.1.extra.length ≤ cap ∧ t0.oneCell' = true ∧ t1.oneCell' = true ∧ t2.oneCell' = true
theorem FileIs.fr {S : Nat → Prop} {w w' : World} {rb a base C : Nat} {row : Option Nat} {p : Value} {x : H × Nat} (h : FileIs w rb a base C row p x) (hf : Fr S w w') (hS : ∀ b, S b → b < C ∨ some b = row ∨ w.heap.size ≤ b) : FileIs w' rb a base C row p x := by
  obtain ⟨f, t0, t1, t2, xv, h1, h2, h3, h4, d, o, cap, h5, h6, h7, h8, h9, h10⟩ := h
  have hlt := h2.lt
  refine ⟨f, t0, t1, t2, xv, h1, hf.blk h2 ?_, h3, h4, d, o, cap, h5, h6, Nat.lt_of_lt_of_le h7 hf.size, h8, rangeAt_fr hf h9 h7 ?_, h10⟩
  · intro hs; rcases hS f hs with h | h | h
    · omega
    · exact h4 h
    · omega
  · intro hs; rcases hS d hs with h | h | h
    · omega
    · exact h8 h
    · omega
theorem FileIs.row {w : World} {rb a base C : Nat} {row row' : Option Nat} {p : Value} {x : H × Nat} (h : FileIs w rb a base C row p x) (hr : row' = row ∨ ∃ g, row' = some g ∧ w.heap.size ≤ g) : FileIs w rb a base C row' p x := by
  obtain ⟨f, t0, t1, t2, xv, h1, h2, h3, h4, d, o, cap, h5, h6, h7, h8, h9, h10⟩ := h
  have hlt := h2.lt
  rcases hr with rfl | ⟨g, rfl, hg⟩
  · exact ⟨f, t0, t1, t2, xv, h1, h2, h3, h4, d, o, cap, h5, h6, h7, h8, h9, h10⟩
  · exact ⟨f, t0, t1, t2, xv, h1, h2, h3, (by intro e; cases e; omega), d, o, cap, h5, h6, h7, (by intro e; cases e; omega), h9, h10⟩
theorem FileIs.both {S : Nat → Prop} {w w' : World} {rb a base C : Nat} {row row' : Option Nat} {p : Value} {x : H × Nat} (h : FileIs w rb a base C row p x) (hf : Fr S w w') (hS : ∀ b, S b → b < C ∨ some b = row ∨ w.heap.size ≤ b) (hr : row' = row ∨ ∃ g, row' = some g ∧ w.heap.size ≤ g) : FileIs w' rb a base C row' p x := by
  have h1 := h.fr hf hS
  have h2 := h.row hr
  obtain ⟨f, t0, t1, t2, xv, a1, a2, a3, a4, d, o, cap, a5, a6, a7, a8, a9, a10⟩ := h1
  obtain ⟨f', t0', t1', t2', xv', b1, b2, b3, b4, d', o', cap', b5, b6, b7, b8, b9, b10⟩ := h2
  rw [a1] at b1
  cases b1
  have e1 : w'.heap[f]? = w.heap[f]? := hf.block f b2.lt (by
    intro hs
    obtain ⟨f'', _, _, _, _, c1, c2, c3, c4, _⟩ := h
    rw [a1] at c1
    cases c1
    rcases hS f hs with k | k | k
    · omega
    · exact c4 k
    · have := c2.lt; omega)
  have e2 : fileAt w f x.1 (nonU x.1) t0 t1 t2 xv rb a (x.2 + base) := by rw [fileAt, Blk, ← e1]; exact a2
  have e3 := b2
  rw [fileAt, Blk] at e2 e3
  rw [e2] at e3
  simp only [Option.some.injEq, Obj.cells.injEq] at e3
  have e4 := congrArg (·[17]?) e3.1
  simp at e4
  subst e4
  rw [a5] at b5
  cases b5
  exact ⟨f, t0, t1, t2, xv, a1, a2, a3, b4, d, o, cap, a5, a6, a7, b8, a9, a10⟩
def FilesAre (w : World) (rb a base C : Nat) (row : Option Nat) (ps : List Value) (hs : List (H × Nat)) : Prop := ps.length = hs.length ∧ ∀ (i : Nat) (p : Value) (x : H × Nat), ps[i]? = some p → hs[i]? = some x → FileIs w rb a base C row p x
theorem FilesAre.fr {S : Nat → Prop} {w w' : World} {rb a base C : Nat} {row : Option Nat} {ps : List Value} {hs : List (H × Nat)} (h : FilesAre w rb a base C row ps hs) (hf : Fr S w w') (hS : ∀ b, S b → b < C ∨ some b = row ∨ w.heap.size ≤ b) : FilesAre w' rb a base C row ps hs :=
  ⟨h.1, fun i p x h1 h2 => (h.2 i p x h1 h2).fr hf hS⟩
theorem FilesAre.row {w : World} {rb a base C : Nat} {row row' : Option Nat} {ps : List Value} {hs : List (H × Nat)} (h : FilesAre w rb a base C row ps hs) (hr : row' = row ∨ ∃ g, row' = some g ∧ w.heap.size ≤ g) : FilesAre w rb a base C row' ps hs :=
  ⟨h.1, fun i p x h1 h2 => (h.2 i p x h1 h2).row hr⟩
theorem FilesAre.both {S : Nat → Prop} {w w' : World} {rb a base C : Nat} {row row' : Option Nat} {ps : List Value} {hs : List (H × Nat)} (h : FilesAre w rb a base C row ps hs) (hf : Fr S w w') (hS : ∀ b, S b → b < C ∨ some b = row ∨ w.heap.size ≤ b) (hr : row' = row ∨ ∃ g, row' = some g ∧ w.heap.size ≤ g) : FilesAre w' rb a base C row' ps hs :=
  ⟨h.1, fun i p x h1 h2 => (h.2 i p x h1 h2).both hf hS hr⟩
theorem FilesAre.snoc {w : World} {rb a base C : Nat} {row : Option Nat} {ps : List Value} {hs : List (H × Nat)} {p : Value} {x : H × Nat} (h : FilesAre w rb a base C row ps hs) (hp : FileIs w rb a base C row p x) : FilesAre w rb a base C row (ps ++ [p]) (hs ++ [x]) := by
  refine ⟨by simp [h.1], fun i q y h1 h2 => ?_⟩
  by_cases hi : i < ps.length
  · rw [List.getElem?_append_left hi] at h1
    rw [List.getElem?_append_left (by rw [← h.1]; exact hi)] at h2
    exact h.2 i q y h1 h2
  · have hi2 : i = ps.length := by
      have := (List.getElem?_eq_some_iff.1 h1).1
      simp at this; omega
    subst hi2
    rw [List.getElem?_append_right (Nat.le_refl _), Nat.sub_self] at h1
    rw [List.getElem?_append_right (by rw [h.1]; exact Nat.le_refl _), h.1, Nat.sub_self] at h2
    simp at h1 h2
    subst h1; subst h2
    exact hp
/-- A reader of an archive: its comment and its files. -/
structure Arc (w : World) (rb a base C0 C : Nat) (comment : List UInt8) (files : Value) (ps : List Value) (hs : List (H × Nat)) : Prop where
  rdr : Blk w rb (rdrCells a files comment base) 66
  own : w.ownsRow C0 67 1 files hs.length ps
  fs : FilesAre w rb a base C files.ownBlock ps hs
/-- The state while the headers are read. -/
structure InSt (w0 wr : World) (E : Errs) (R : Rdr) (rb base C : Nat) (comment : List UInt8) (files : Value) (ps : List Value) (hs : List (H × Nat)) (l : List UInt8) : Prop where
  arc : Arc wr rb R.a base w0.heap.size C comment files ps hs
  rowR : ∀ b, some b = files.ownBlock → ¬ R.has b
  rd : RB R E wr l
  fr : Fr (· = rb) w0 wr
/-- How the blocks lie. -/
structure InAp (w0 : World) (R : Rdr) (N0 rb C : Nat) : Prop where
  ok : R.Ok N0
  rb0 : N0 ≤ rb
  rlt : rb < w0.heap.size
  alt : R.a < w0.heap.size
  ra : rb ≠ R.a
  Rge : ∀ b, R.has b → w0.heap.size ≤ b ∧ b < C
theorem InAp.rbR {w0 : World} {R : Rdr} {N0 rb C : Nat} (h : InAp w0 R N0 rb C) : ¬ (R.has rb ∨ rb = R.a) := by
  rintro (k | k)
  · have := h.Rge _ k; have := h.rlt; omega
  · exact h.ra k
theorem InSt.keep {w0 wr wf w2 : World} {E : Errs} {R : Rdr} {N0 rb base C : Nat} {comment : List UInt8} {files : Value} {ps : List Value} {hs : List (H × Nat)} {l : List UInt8} (h : InSt w0 wr E R rb base C comment files ps hs l) (ap : InAp w0 R N0 rb C) (_hC : C ≤ wr.heap.size)
    (hwf : Fr (fun _ => False) wr wf) (hf : Fr (fun b => b = wr.heap.size ∨ R.has b) wf w2) : Arc w2 rb R.a base w0.heap.size C comment files ps hs ∧ Fr (· = rb) w0 w2 ∧ Fr (fun b => b = wr.heap.size ∨ R.has b) wr w2 := by
  have hf' : Fr (fun b => b = wr.heap.size ∨ R.has b) wr w2 := hwf.trans2 hf (fun _ h => h.elim) (fun _ h => h)
  have hrl := h.arc.rdr.lt
  refine ⟨⟨hf'.blk h.arc.rdr ?_, ownsRow_fr h.arc.own hf' ?_, h.arc.fs.fr hf' ?_⟩, h.fr.trans hf' ?_, hf'⟩
  · rintro (e | e)
    · omega
    · exact ap.rbR (.inl e)
  · rintro b (e | e) e2
    · have := ownBlock_ge h.arc.own b e2; omega
    · exact h.rowR b e2 e
  · rintro b (e | e)
    · exact .inr (.inr (by omega))
    · exact .inl (ap.Rge b e).2
  · rintro b hb (e | e)
    · have := h.fr.size; omega
    · have := ap.Rge b e; omega
/-- A header more is read: the file is new. -/
theorem InSt.read {w0 wr wf w2 : World} {E : Errs} {R : Rdr} {N0 rb base C : Nat} {comment : List UInt8} {files : Value} {ps : List Value} {hs : List (H × Nat)} {l tl : List UInt8} (h : InSt w0 wr E R rb base C comment files ps hs l) (ap : InAp w0 R N0 rb C) (hC : C ≤ wr.heap.size)
    (hwf : Fr (fun _ => False) wr wf) (hrd : RB R E w2 tl) (hf : Fr (fun b => b = wr.heap.size ∨ R.has b) wf w2) : InSt w0 w2 E R rb base C comment files ps hs tl := by
  obtain ⟨h1, h2, _⟩ := h.keep ap hC hwf hf
  exact ⟨h1, h.rowR, hrd, h2⟩
/-- The file is appended. -/
theorem InSt.add {w0 w3 w4 : World} {E : Errs} {R : Rdr} {N0 rb base C : Nat} {comment : List UInt8} {files files' : Value} {ps : List Value} {hs : List (H × Nat)} {l : List UInt8} {x : H × Nat} {p : Value} (h : InSt w0 w3 E R rb base C comment files ps hs l) (ap : InAp w0 R N0 rb C) (hCw : w0.heap.size ≤ C)
    (hp : FileIs w3 rb R.a base C files.ownBlock p x) (h1 : w4.ownsRow w0.heap.size 67 1 files' (hs.length + 1) (ps ++ [p])) (h2 : Fr (fun b => some b = files.ownBlock) w3 w4) (hrow : files'.ownBlock = files.ownBlock ∨ ∃ g, files'.ownBlock = some g ∧ w3.heap.size ≤ g) :
    InSt w0 (w4.setCell ⟨rb, 1, none⟩ files') E R rb base C comment files' (ps ++ [p]) (hs ++ [x]) l := by
  have hrl := h.arc.rdr.lt
  have hr0 := ap.rlt
  have hf : Fr (fun b => some b = files.ownBlock ∨ b = rb) w3 (w4.setCell ⟨rb, 1, none⟩ files') := (h2.mono fun _ _ h => .inl h).setCell (fun _ => .inr rfl) _
  have hown : ∀ b, some b = files.ownBlock → w0.heap.size ≤ b ∧ b < w3.heap.size := ownBlock_ge h.arc.own
  have hown' : ∀ b, some b = files'.ownBlock → w0.heap.size ≤ b := fun b hb => (ownBlock_ge h1 b hb).1
  refine ⟨⟨?_, ?_, ?_⟩, ?_, ?_, ?_⟩
  · have hb : Blk w4 rb (rdrCells R.a files comment base) 66 := h2.blk h.arc.rdr (fun e => by have := hown _ e; omega)
    exact hb.set 1 files'
  · have hfw : Fr (· = rb) w4 (w4.setCell ⟨rb, 1, none⟩ files') := (Fr.refl (· = rb) _).setCell (fun _ => rfl) _
    have := ownsRow_fr h1 hfw (fun b hb e => by have := hown' b e; omega)
    simpa using this
  · refine (h.arc.fs.snoc hp).both hf ?_ hrow
    rintro b (e | e)
    · exact .inr (.inl e)
    · exact .inl (by omega)
  · intro b hb e
    rcases hrow with h3 | ⟨g, h3, hg⟩
    · exact h.rowR b (by rw [hb, h3]) e
    · rw [h3] at hb
      have := h.rd.lt b (.inl e)
      cases hb; omega
  · refine h.rd.fr hf ?_
    rintro b hb (e | e)
    · rcases hb with hb | hb
      · exact h.rowR b e hb
      · have := hown b e; have := ap.alt; omega
    · rcases hb with hb | hb
      · have := ap.Rge b hb; omega
      · exact ap.ra (by omega)
  · refine h.fr.trans hf ?_
    rintro b hb (e | e)
    · have := hown b e; omega
    · exact e
end Go.Proofs.Zip
namespace Go.Proofs.Zip
open Go Go.RowKit
theorem nil_eql (e : Addr) (w : World) : (binOp .eql 56 .nilIface (errv e)).run Tryz.prog w = .ok (.bool false) w := by kernel_rfl
theorem infoFP : (Tryz.prog.info? 67).map (fun i => (i.zero, i.size, i.bytes)) = some (some (.pointer none), 1, 8) := by kernel_rfl
/-- What comes of reading an archive's directory: the count of the files read fits, or an error. -/
def InPost (E : Errs) (rb a base : Nat) (comment : List UInt8) (hs : List (H × Nat)) (rec : Nat) (w : World) (e : Ending) (w' : World) : Prop :=
  (Hid (hs.length % 65536 = rec) ∧ e = .returned .nilIface ∧ ∃ files ps C0 C, Hid (Arc w' rb a base C0 C comment files ps hs ∧ w.heap.size ≤ C0 ∧ w.heap.size ≤ C ∧ Fr (· = rb) w w')) ∨
  (Hid (hs.length % 65536 ≠ rec) ∧ (e = .returned (errv E.fmt) ∨ e = .returned (errv E.unx)) ∧ Hid (Fr (· = rb) w w'))
/-- An archive's text: where its end is found, what stands in its directory. -/
structure ArcText (D : List UInt8) (b k base : Nat) (hs : List (H × Nat)) (tl : List UInt8) : Prop where
  found : Found D (some (b, k))
  ok : DEOk D (D.length - b + k) base
  dir : D.drop (base + n4 D (D.length - b + k + 16)) = catL hs ++ tl
  stop : Stops tl
  ne : tl ≠ []
  hok : ∀ x ∈ hs, headerOk x.1 = true ∧ x.2 ≤ 4294967294
  cnt : hs.length ≤ 65000
  len : D.length ≤ 2305843009213693952
/-- What is left to read, told by the reader's row of files. -/
def leftOf (n rb : Nat) (w : World) : Nat := n - (match w.cell? ⟨rb, 1, none⟩ with | some v => lenOfV v | none => 0)
theorem leftOf_arc {n rb a base C0 C : Nat} {comment : List UInt8} {files : Value} {ps : List Value} {hs : List (H × Nat)} {w : World} (h : Arc w rb a base C0 C comment files ps hs) : leftOf n rb w = n - hs.length := by
  unfold leftOf
  have : w.cell? ⟨rb, 1, none⟩ = some files := h.rdr.cell 1
  rw [this]
  simp only [lenOfV_own h.own]
set_option maxRecDepth 100000 in
set_option maxHeartbeats 4000000 in
theorem init_any (rb a base b k N0 : Nat) (D tl : List UInt8) (hs : List (H × Nat)) (E : Errs) (w : World) (hE : Env w N0 E) (ha : IsText w a D) (haN : N0 ≤ a) (hrb : Blk w rb #[.nilIface, .slice none 0 0, .string ⟨#[]⟩, .map none, .int .i64 0] 66) (hrbN : N0 ≤ rb) (hra : rb ≠ a) (ht : ArcText D b k base hs tl) :
    Calls Tryz.prog 59 #[.pointer (some ⟨rb, 0, none⟩), textv a, .int .i64 D.length] w (InPost E rb a base ((D.drop (D.length - b + k + 22)).take (n2 D (D.length - b + k + 20))) hs (n2 D (D.length - b + k + 10)) w) := by
  go_enter Tryz.func59, Tryz.ntmps59
  have HD := Lib.hid (dirEnd_any D E N0 a base (some (b, k)) w hE ha haN ht.len ht.found (fun b' k' e => by cases e; exact ht.ok))
  have HE := Lib.hid hE
  have HA := Lib.hid ha
  have HB := Lib.hid hrb
  have HT := Lib.hid ht
  clear hE ha hrb ht
  go_wp2_with fail
  refine HD.out.mono ?_
  rintro e w1 ⟨q, x, y, z, rfl, hq, hqb, hb1⟩
  obtain ⟨p, hp⟩ : ∃ p, p = D.length - b + k := ⟨_, rfl⟩
  rw [← hp] at hqb ⊢
  have hok := HT.out.ok
  have hdir := HT.out.dir
  rw [← hp] at hok hdir
  obtain ⟨comment, hcm⟩ : ∃ c, c = (D.drop (p + 22)).take (n2 D (p + 20)) := ⟨_, rfl⟩
  rw [← hcm] at hqb ⊢
  obtain ⟨rec, hrec⟩ : ∃ c, c = n2 D (p + 10) := ⟨_, rfl⟩
  obtain ⟨dsz, hdsz⟩ : ∃ c, c = n4 D (p + 12) := ⟨_, rfl⟩
  obtain ⟨dof, hdof⟩ : ∃ c, c = n4 D (p + 16) := ⟨_, rfl⟩
  have hrec2 : rec < 65536 := by rw [hrec]; exact n2_lt _ _
  have hdsz2 : dsz < 4294967296 := by rw [hdsz]; exact n4_lt _ _
  have hdof2 : dof < 4294967296 := by rw [hdof]; exact n4_lt _ _
  have HRC := Lib.hid hrec
  rw [← hrec, ← hdsz, ← hdof] at hqb
  rw [← hrec]
  rw [← hdof] at hdir
  have hsum : dsz + dof + base = p := by rw [hdsz, hdof]; exact hok.sum
  have hbp : base ≤ p := by omega
  have hpl : p + 22 ≤ D.length := by have := hok.len; omega
  have hlen := HT.out.len
  have HOK := Lib.hid hok
  have HDIR := Lib.hid hdir
  have HCM := Lib.hid hcm
  have HP := Lib.hid hp
  clear hok hdir hcm hp hrec hdsz hdof HD
  have nqr : ¬ rb = q := by have := HB.out.lt; omega
  have hrb1 := below_blk hb1 HB.out
  have HE1 := Lib.hid (HE.out.below hb1)
  have HA1 := Lib.hid (below_blk hb1 HA.out)
  have HB1 := Lib.hid hrb1
  have HBL1 := Lib.hid hb1
  clear HE HA HB hb1 hq
  have HE := HE1
  have HA := HA1
  have HB := HB1
  have hq1 := hqb.lt
  clear HE1 HA1 HB1
  have f0 : w1.frozen? ⟨rb, 0, none⟩ = false := hrb1.frozen 0
  have f4 : w1.frozen? ⟨rb, 4, none⟩ = false := hrb1.frozen 4
  have c0 : w1.cell? ⟨rb, 0, none⟩ = some .nilIface := hrb1.cell 0
  have c4 : w1.cell? ⟨rb, 4, none⟩ = some (.int .i64 0) := hrb1.cell 4
  have nrq : ¬ q = rb := fun e => nqr e.symm
  have HQB1 := Lib.hid hqb
  go_upto_region 6 with fail
  generalize hW2 : (w1.setCell ⟨rb, 0, none⟩ (textv a)).setCell ⟨rb, 4, none⟩ (.int .i64 base) = w2
  have hrb2 : Blk w2 rb #[textv a, .slice none 0 0, .string ⟨#[]⟩, .map none, .int .i64 base] 66 := by rw [← hW2]; exact (hrb1.set 0 _).set 4 _
  have hqb2 : Blk w2 q (endCells x y z rec dsz dof (n2 D (p + 20)) comment) 187 := by rw [← hW2]; exact (hqb.set_ne nrq _).set_ne nrq _
  have hfr2 : Fr (· = rb) w1 w2 := by rw [← hW2]; exact ((Fr.refl (· = rb) w1).setCell (fun _ => rfl) _).setCell (fun _ => rfl) _
  have c4 : w2.cell? ⟨q, 4, none⟩ = some (.int .u64 dsz) := hqb2.cell 4
  have c3 : w2.cell? ⟨q, 3, none⟩ = some (.int .u64 rec) := hqb2.cell 3
  have hlt : (dsz : Int) < D.length := by omega
  have HRB2 := Lib.hid hrb2
  have HQB2 := Lib.hid hqb2
  have HFR2 := Lib.hid hfr2
  clear hW2 hrb1 hqb hrb2 hqb2 hfr2 f0 f4 c0
  go_cut [52] (fun s52 wx => ∃ bb, s52 = .bool bb ∧ wx = w2.drew)
  case first =>
    go_region
    all_goals (go_wp2_with fail; go_meet; exact ⟨_, rfl, rfl⟩)
  case rest =>
    obtain ⟨bb, rfl, rfl⟩ := hcut
    go_upto_if 52 with fail
    go_cut [58] (fun s58 wx => ∃ files0, Hid (Blk wx rb #[textv a, files0, .string ⟨#[]⟩, .map none, .int .i64 base] 66 ∧ wx.ownsRow w1.heap.size 67 1 files0 0 [] ∧ Blk wx q (endCells x y z rec dsz dof (n2 D (p + 20)) comment) 187 ∧ Fr (· = rb) w1 wx))
    case first =>
      cases bb
      · go_wp2_with fail
        go_meet
        exact ⟨_, Lib.hid ⟨HRB2.out, World.ownsRow_nil _ _ _ _, HQB2.out, HFR2.out.drew⟩⟩
      · have d1 : w2.cell? ⟨rb, 1, none⟩ = some (.slice none 0 0) := HRB2.out.cell 1
        have f1 : w2.frozen? ⟨rb, 1, none⟩ = false := HRB2.out.frozen 1
        obtain ⟨i0, hi, hz0, hz1, hz2⟩ := info_parts infoFP
        go_wp2_with (at_make; refine wpList_make_own _ rfl _ _ 63 rfl w1.heap.size 67 i0 _ 1 Tryz.underlying63 hi hz0 hz1 _ _ _ rec rfl rfl rfl ?b1 ?b2 ?b3 ?_)
        case b1 => rw [hz2]; omega
        case b2 => unfold maxLen; omega
        case b3 => simpa using HFR2.out.size
        intro wm hom hgm
        have hfm : Fr (fun _ => False) w2 wm := (Fr.refl (fun _ => False) w2).drew.trans2 ((Fr.of_grown hgm).mono (T := fun _ => False) (fun _ _ h => by cases h)) (fun _ h => h) (fun _ h => h)
        have e1 : wm.cell? ⟨rb, 1, none⟩ = some (.slice none 0 0) := (hfm.blk HRB2.out id).cell 1
        have g1 : wm.frozen? ⟨rb, 1, none⟩ = false := (hfm.blk HRB2.out id).frozen 1
        have HOM := Lib.hid hom
        have HFM := Lib.hid hfm
        have hrl := HRB2.out.lt
        have hsz := HFR2.out.size
        have hrw := HB.out.lt
        clear hom hfm hgm hi hz0 hz1 hz2 d1 f1
        go_wp2_with fail
        go_meet
        refine ⟨.slice (some ⟨w2.heap.size, 0, none⟩) 0 rec, Lib.hid ⟨(HFM.out.blk HRB2.out id).set 1 _, ?_, (HFM.out.blk HQB2.out id).set_ne nrq _, (HFR2.out.trans2 HFM.out (fun _ h => h) (fun _ h => h.elim)).setCell (fun _ => rfl) _⟩⟩
        refine ownsRow_fr (S := (· = rb)) HOM.out (Fr.set1 _ _ _ _) ?_
        intro b hb e
        simp [Value.ownBlock] at e
        omega
    case rest =>
      obtain ⟨files0, hcut⟩ := hcut
      have c2 : wc.cell? ⟨rb, 2, none⟩ = some (.string ⟨#[]⟩) := hcut.out.1.cell 2
      have f2 : wc.frozen? ⟨rb, 2, none⟩ = false := hcut.out.1.frozen 2
      have c7 : wc.cell? ⟨q, 7, none⟩ = some (.string (B comment)) := hcut.out.2.2.1.cell 7
      go_upto_region 10 with (go_at_call 63; refine (newSection_any a 0 D.length _ (by omega) (by omega) (by omega)).mono ?_; rintro e w3 ⟨rfl, hw3⟩)
      generalize hW4 : wc.setCell ⟨rb, 2, none⟩ (.string (B comment)) = w4 at hw3
      have hrb4 : Blk w4 rb (rdrCells a files0 comment base) 66 := by rw [← hW4]; exact hcut.out.1.set 2 _
      have hfr4 : Fr (· = rb) w1 w4 := by rw [← hW4]; exact hcut.out.2.2.2.setCell (fun _ => rfl) _
      have hqb4 : Blk w4 q (endCells x y z rec dsz dof (n2 D (p + 20)) comment) 187 := by rw [← hW4]; exact hcut.out.2.2.1.set_ne nrq _
      have how4 : w4.ownsRow w1.heap.size 67 1 files0 0 [] := by
        rw [← hW4]
        refine ownsRow_fr (S := (· = rb)) hcut.out.2.1 (Fr.set1 _ _ _ _) ?_
        intro b hb e
        have := ownBlock_ge hcut.out.2.1 b e
        have := HB.out.lt
        omega
      rw [Int.zero_add] at hw3
      rw [← hw3]
      have hs4 := hfr4.size
      have hq4 := hqb4.lt
      have hdofb : base + dof < D.length := by omega
      have hw3s : w3.heap.size = w4.heap.size + 1 := by rw [hw3]; simp
      have hfr3 : Fr (fun _ => False) w4 w3 := by rw [hw3]; exact (Fr.refl _ _).alloc _
      have hp3 : IsPart w3 w4.heap.size a 0 0 ((D.length : Nat) : Int) D.length := by rw [hw3]; exact Blk.new _ _ _
      have s10 : wc.heap.size = w4.heap.size := by rw [← hW4]; simp [World.setCell]
      rw [s10]
      have k4 : w3.cell? ⟨rb, 4, none⟩ = some (.int .i64 base) := (hfr3.blk hrb4 id).cell 4
      have k5 : w3.cell? ⟨q, 5, none⟩ = some (.int .u64 dof) := (hfr3.blk hqb4 id).cell 5
      have hsum2 : IntKind.i64.wrap ((base : Int) + dof) = (base : Int) + dof := by rw [IntKind.wrap_i64]; omega
      have hsum3 : IntKind.i64.wrap (dof : Int) = dof := by rw [IntKind.wrap_i64]; omega
      have HSK := Lib.hid (fun w' (hf : Fr (fun _ => False) w3 w') => seek_any w4.heap.size a 0 0 D.length D.length ((base : Int) + (dof : Int)) w' (hf.blk hp3 id) (by omega) (by omega) (by omega))
      have HRB4 := Lib.hid hrb4
      have HQB4 := Lib.hid hqb4
      have HFR4 := Lib.hid hfr4
      have HOW4 := Lib.hid how4
      have HFR3 := Lib.hid hfr3
      clear hW4 hrb4 hqb4 hfr4 how4 hfr3 hw3 hcut c2 f2 c7 c3 c4 hp3 s10
      go_cut [9] (fun s9 wx => s9 = .nilIface ∧ Hid (IsPart wx w4.heap.size a 0 (0 + ((base : Int) + (dof : Int))) D.length D.length ∧ Fr (· = w4.heap.size) w3 wx))
      case first =>
        go_region_with (go_at_call 85; refine (HSK.out _ ?hh).mono ?_; (case hh => exact (Fr.refl _ _).drew); rintro e w5 ⟨rfl, hp5, hf5⟩)
        all_goals (
          go_wp2_with fail
          go_meet
          exact ⟨rfl, Lib.hid ⟨hp5, (Fr.refl _ w3).drew.trans2 hf5 (U := (· = w4.heap.size)) (fun _ h => h) (fun _ h => h)⟩⟩)
      case rest =>
        clear k4 k5 hsum2 hsum3 HSK
        obtain ⟨rfl, hcut⟩ := hcut
        have hlen2 : base + dof ≤ 4611686018427387904 := by omega
        have hA5 : IsText wc a D := hcut.out.2.blk (HFR3.out.blk (HFR4.out.blk HA.out (fun e => hra e.symm)) id) (by have := HA.out.lt; omega)
        have hP5 : IsPart wc w4.heap.size a 0 ((base + dof : Nat) : Int) ((D.length : Nat) : Int) D.length := by
          have := hcut.out.1
          rw [show (0 + ((base : Int) + (dof : Int))) = ((base + dof : Nat) : Int) by omega] at this
          exact this
        have hf05 : Fr (fun b => b = rb) w1 wc := (HFR4.out.trans2 HFR3.out (U := (· = rb)) (fun _ h => h) (fun _ h => h.elim)).trans hcut.out.2 (fun i hi e => by omega)
        have HN := Lib.hid (newReader_any w4.heap.size a 0 D.length (base + dof) D.length D E.eof wc hP5 hA5 hlen2)
        have hcs : w3.heap.size ≤ wc.heap.size := hcut.out.2.size
        have hrb5 : Blk wc rb (rdrCells a files0 comment base) 66 := hcut.out.2.blk (HFR3.out.blk HRB4.out id) (by have := HB.out.lt; omega)
        have hqb5 : Blk wc q (endCells x y z rec dsz dof (n2 D (p + 20)) comment) 187 := hcut.out.2.blk (HFR3.out.blk HQB4.out id) (by have := HQB4.out.lt; omega)
        have how5 : wc.ownsRow w1.heap.size 67 1 files0 0 [] := by
          refine ownsRow_fr (ownsRow_fr HOW4.out HFR3.out (fun _ h => h.elim)) hcut.out.2 ?_
          intro b hb e
          have := ownBlock_ge HOW4.out b e
          omega
        have HRB5 := Lib.hid hrb5
        have HQB5 := Lib.hid hqb5
        have HOW5 := Lib.hid how5
        have HF05 := Lib.hid hf05
        have how4lt : ∀ b, some b = files0.ownBlock → b < w4.heap.size := fun b e => (ownBlock_ge HOW4.out b e).2
        have HOWL := Lib.hid how4lt
        clear hrb5 hqb5 how5 hf05 hP5 hA5 hcut how4lt HRB4 HQB4 HOW4 HFR4 HFR3
        go_wp2_with fail
        refine HN.out.mono ?_
        rintro e w6 ⟨rfl, hbd, hbl6, hsz6⟩
        obtain ⟨R, hR⟩ : ∃ R : Rdr, R = { bb := wc.heap.size, q := wc.heap.size + 1, s := w4.heap.size, a := a, base := 0, n := D.length, D := D, lim := D.length } := ⟨_, rfl⟩
        have hbb : wc.heap.size = R.bb := by rw [hR]
        have hRa : R.a = a := by rw [hR]
        have hRhas : ∀ b, R.has b ↔ b = wc.heap.size ∨ b = wc.heap.size + 1 ∨ b = w4.heap.size := fun b => by rw [hR]; rfl
        have hRB : RB R E w6 (catL hs ++ tl) := by
          have e1 : rest D (base + dof) D.length = catL hs ++ tl := by rw [rest, List.take_of_length_le (Nat.le_refl _)]; exact HDIR.out
          rw [e1] at hbd
          rw [hR]; exact hbd
        have hle := HE.out.le
        have hal := HA.out.lt
        have hrbl := HB.out.lt
        have hqlt := HQB5.out.lt
        have hf6 : Fr (· = rb) w1 w6 := HF05.out.trans2 (Fr.of_below (S := fun _ => False) hbl6) (fun _ h => h) (fun _ h => h.elim)
        have hap : InAp w1 R N0 rb w6.heap.size := by
          refine ⟨⟨?_, ?_, ?_, ?_, ?_, ?_, ?_, ?_, ?_, ?_, ?_⟩, hrbN, hrbl, by rw [hRa]; exact hal, by rw [hRa]; exact hra, ?_⟩
          iterate 11 (rw [hR]; simp only []; omega)
          · intro b hb
            rw [hRhas] at hb
            omega
        have hst : InSt w1 w6 E R rb base w6.heap.size comment files0 [] [] (catL hs ++ tl) := by
          refine ⟨⟨?_, ownsRow_below HOW5.out hbl6, ⟨rfl, fun i p x h => by simp at h⟩⟩, ?_, hRB, hf6⟩
          · rw [hRa]; exact below_blk hbl6 HRB5.out
          · intro b hb e
            have := HOWL.out b hb
            rw [hRhas] at e
            omega
        have HST := Lib.hid hst
        have HAP := Lib.hid hap
        have HRA := Lib.hid hRa
        have HQ6 := HQB1
        have hqR : Hid (q ≠ rb ∧ ¬ R.has q ∧ q < w1.heap.size) := Lib.hid ⟨nrq, fun e => by rw [hRhas] at e; omega, hq1⟩
        rw [hbb]
        clear hst hap hRa hRB hbd hbl6 hf6 hR hRhas HN hbb
        go_wp2_with fail
        go_loopw [9] (fun t9 wr => t9 = .nilIface ∧ ∃ files ps done todo, Hid (done ++ todo = hs) ∧ Hid (InSt w1 wr E R rb base w6.heap.size comment files ps done (catL todo ++ tl)) ∧ Hid (w6.heap.size ≤ wr.heap.size)) (fun _ wr => leftOf hs.length rb wr)
        case atStart => exact ⟨rfl, files0, [], [], hs, Lib.hid rfl, Lib.hid HST.out, Lib.hid (Nat.le_refl _)⟩
        case round =>
          obtain ⟨rfl, files, ps, done, todo, htd, hSt, hsr⟩ := hrel
          have hEr : Env wr N0 E := HE.out.fr hSt.out.fr (by rintro b rfl; exact hrbN)
          have HER := Lib.hid hEr
          have hfz := Blk.new wr (fileZero (.pointer (some ⟨rb, 0, none⟩)) (textv a)) 80
          have hff : Fr (fun _ => False) wr (wr.alloc (.cells (fileZero (.pointer (some ⟨rb, 0, none⟩)) (textv a)) 80)) := (Fr.refl _ _).alloc _
          have hEf := hEr.fr hff (fun _ h => h.elim)
          have hrdf := hSt.out.rd.fr hff (fun _ _ h => h)
          have HFZ := Lib.hid hfz
          have HFF := Lib.hid hff
          have HEF := Lib.hid hEf
          have HRF := Lib.hid hrdf
          have hrn : N0 ≤ wr.heap.size := hEr.le
          have nq := fun e w => nil_eql e w
          have ceq := fun e w => eql_same e w
          have hwrec : IntKind.u16.wrap (rec : Int) = rec := by rw [IntKind.wrap_u16]; omega
          clear hfz hff hEf hrdf hEr hsum hrec2 hdsz2 hdof2 c4 hlt hs4 hq4 hdofb hw3s hlen2 hcs hsz6 hqlt hal
          cases todo with
          | nil =>
            have hs0 : done = hs := by have := htd.out; simpa using this
            subst hs0
            have hHS := header_stop R E N0 wr.heap.size tl _ HAP.out.ok HEF.out (by have := HRF.out; simpa [catL] using this) HT.out.stop
            have hfu : ∃ xe, stopErr E tl = errv xe ∧ (xe = E.fmt ∨ xe = E.unx) := by
              unfold stopErr
              by_cases h46 : 46 ≤ tl.length
              · rw [if_pos h46]; exact ⟨_, rfl, .inl rfl⟩
              · rw [if_neg h46, if_neg HT.out.ne]; exact ⟨_, rfl, .inr rfl⟩
            obtain ⟨xe, hxe, hfu⟩ := hfu
            rw [hxe] at hHS
            have HHS := Lib.hid hHS
            have HFU := Lib.hid hfu
            clear hHS hxe hfu
            go_wp2_with fail
            refine HHS.out.mono ?_
            rintro e w8 ⟨rfl, hf8⟩
            obtain ⟨hA8, hF8, hR8⟩ := hSt.out.keep HAP.out hsr.out HFF.out (hf8.mono fun _ _ h => .inr h)
            have hE8 : Env w8 N0 E := HE.out.fr hF8 (by rintro b rfl; exact hrbN)
            have hq8 : Blk w8 q (endCells x y z rec dsz dof (n2 D (p + 20)) comment) 187 := hR8.blk (hSt.out.fr.blk HQ6.out hqR.out.1) (by rintro (e | e); (have := hqR.out.2.2; have := hSt.out.fr.size; omega); exact hqR.out.2.1 e)
            obtain ⟨fx, fcap, hform⟩ := own_form hA8.own
            have hA8' := hA8
            rw [hform] at hA8
            have c1 : w8.cell? ⟨rb, 1, none⟩ = some (.slice fx done.length fcap) := hA8.rdr.cell 1
            have c3 : w8.cell? ⟨q, 3, none⟩ = some (.int .u64 rec) := hq8.cell 3
            have gf : w8.cell? ⟨1, 0, none⟩ = some (errv E.fmt) := hE8.fmt.sen.cell
            have gu : w8.cell? ⟨4, 0, none⟩ = some (errv E.unx) := hE8.unx.sen.cell
            have hne1 := eql_other hE8.unx.sen hE8.fmt.sen (fun h => hE8.apart.fu h.symm)
            have hcnt := HT.out.cnt
            have hwn : IntKind.u16.wrap (done.length : Int) = done.length := by rw [IntKind.wrap_u16]; omega
            have FIN : Hid (∀ w', Fr (fun _ => False) w8 w' → Arc w' rb R.a base w1.heap.size w6.heap.size comment files ps done ∧ Fr (· = rb) w w') := Lib.hid fun w' hf => ⟨⟨hf.blk hA8'.rdr id, ownsRow_fr hA8'.own hf (fun _ h => h.elim), hA8'.fs.fr hf (fun _ h => h.elim)⟩, (Fr.of_below (S := (· = rb)) HBL1.out).trans2 (hF8.trans2 hf (U := (· = rb)) (fun _ h => h) (fun _ h => h.elim)) (fun _ h => h) (fun _ h => h)⟩
            have hC : Hid (w.heap.size ≤ w1.heap.size ∧ w.heap.size ≤ w6.heap.size) := Lib.hid (by have h1 := HBL1.out.size; have h2 := HST.out.fr.size; omega)
            have hrl : Hid (rec = n2 D (D.length - b + k + 10)) := Lib.hid (by rw [← HP.out]; exact HRC.out)
            have hcl : Hid (comment = (D.drop (D.length - b + k + 22)).take (n2 D (D.length - b + k + 20))) := Lib.hid (by rw [← HP.out]; exact HCM.out)
            have hr16 := n2_lt D (D.length - b + k + 10)
            rw [← hrl.out] at hr16
            have HR16 := Lib.hid hr16
            clear hA8 hA8' hF8 hR8 hE8 hq8 hf8 hform HHS hcnt hr16
            by_cases heq : done.length = rec
            · have hb0 : ((done.length : Int) != rec) = false := by rw [bne_eq_false_iff_eq]; omega
              have HEQ := Lib.hid heq
              clear heq
              rcases HFU.out with rfl | rfl
              all_goals (
                go_upto_region 21 with fail
                go_region
                go_wp2
                go_ret
                obtain ⟨y1, y2⟩ := FIN.out _ ((Fr.refl _ w8).drew)
                rw [HRA.out, hcl.out] at y1
                exact Or.inl ⟨Lib.hid (by rw [← hrl.out, HEQ.out]; have := HR16.out; omega), rfl, files, ps, _, _, Lib.hid ⟨y1, hC.out.1, hC.out.2, y2⟩⟩)
            · have hb0 : ((done.length : Int) != rec) = true := by rw [bne_iff_ne]; omega
              have HEQ := Lib.hid heq
              clear heq
              rcases HFU.out with rfl | rfl
              · go_upto_region 21 with fail
                go_region
                go_wp2
                go_ret
                obtain ⟨y1, y2⟩ := FIN.out _ ((Fr.refl _ w8).drew)
                exact Or.inr ⟨Lib.hid (by rw [← hrl.out]; have := HEQ.out; have := HT.out.cnt; omega), Or.inl rfl, Lib.hid y2⟩
              · go_upto_region 21 with fail
                go_region
                go_wp2
                go_ret
                obtain ⟨y1, y2⟩ := FIN.out _ ((Fr.refl _ w8).drew)
                exact Or.inr ⟨Lib.hid (by rw [← hrl.out]; have := HEQ.out; have := HT.out.cnt; omega), Or.inr rfl, Lib.hid y2⟩
          | cons xx rest =>
            have hmem : xx ∈ hs := by rw [← htd.out]; simp
            obtain ⟨hxok, hxat⟩ := HT.out.hok xx hmem
            have hHO := Lib.hid (header_ok R E N0 xx.1 (xx.2 : Int) (catL rest ++ tl) wr.heap.size (.pointer (some ⟨rb, 0, none⟩)) (textv a) _ HAP.out.ok HEF.out HFZ.out hrn (by
              rintro (e | e)
              · have := HAP.out.Rge _ e; have := hsr.out; omega
              · have := HAP.out.alt; have := hSt.out.fr.size; omega) (by have := HRF.out; rw [catL_cons, List.append_assoc] at this; exact this) hxok (by omega) (by omega))
            clear hxok hmem
            go_wp2_with fail
            refine hHO.out.mono ?_
            rintro e w8 ⟨rfl, ⟨wall, ext, loc, xv, hfl, hsl⟩, hrd8, hf8⟩
            obtain ⟨hA8, hF8, hR8⟩ := hSt.out.keep HAP.out hsr.out HFF.out hf8
            have hE8 : Env w8 N0 E := HE.out.fr hF8 (by rintro b rfl; exact hrbN)
            have gf : w8.cell? ⟨1, 0, none⟩ = some (errv E.fmt) := hE8.fmt.sen.cell
            have gu : w8.cell? ⟨4, 0, none⟩ = some (errv E.unx) := hE8.unx.sen.cell
            have d21 : w8.cell? ⟨wr.heap.size, 21, none⟩ = some (.int .i64 (xx.2 : Int)) := hfl.cell 21
            have z21 : w8.frozen? ⟨wr.heap.size, 21, none⟩ = false := hfl.frozen 21
            have d4 : w8.cell? ⟨rb, 4, none⟩ = some (.int .i64 base) := hA8.rdr.cell 4
            have hso : IntKind.i64.wrap ((xx.2 : Int) + base) = (xx.2 : Int) + base := by rw [IntKind.wrap_i64]; omega
            have nrf : ¬ rb = wr.heap.size := by have := hSt.out.arc.rdr.lt; omega
            have nfr : ¬ wr.heap.size = rb := fun e => nrf e.symm
            have HFL := Lib.hid hfl
            have HSL := Lib.hid hsl
            have HRD8 := Lib.hid hrd8
            have HF8 := Lib.hid hf8
            clear hfl hsl hrd8 hf8 hA8 hF8 hR8 hE8 hHO
            go_upto_region 19 with fail
            go_region
            generalize hW9 : (w8.setCell ⟨wr.heap.size, 21, none⟩ (.int .i64 ((xx.2 : Int) + base))).drew = w9
            have hf9 : Fr (fun b => b = wr.heap.size ∨ R.has b) (wr.alloc (.cells (fileZero (.pointer (some ⟨rb, 0, none⟩)) (textv a)) 80)) w9 := by
              rw [← hW9]; exact (HF8.out.setCell (fun _ => .inl rfl) _).drew
            have hf89 : Fr (fun b => b = wr.heap.size) w8 w9 := by rw [← hW9]; exact ((Fr.refl (· = wr.heap.size) w8).setCell (fun _ => rfl) _).drew
            have hfl9 : fileAt w9 wr.heap.size xx.1 (nonU xx.1) (.int .u64 wall) (.int .i64 ext) (.pointer loc) xv rb R.a (xx.2 + base) := by
              have := HFL.out.set 21 (.int .i64 ((xx.2 : Int) + base))
              rw [HRA.out, ← hW9]
              exact this
            obtain ⟨dd, od, capd, hxv, hdge, hdlt, hdr, hdc⟩ := HSL.out
            have hdlt8 : wr.heap.size + 1 ≤ dd := by rw [World.size_alloc] at hdge; exact hdge
            obtain ⟨hA9, hF9, hR9⟩ := hSt.out.keep HAP.out hsr.out HFF.out hf9
            have hrd9 : RB R E w9 (catL rest ++ tl) := HRD8.out.fr hf89 (by
              rintro b hb rfl
              rcases hb with hb | hb
              · have := HAP.out.Rge _ hb; have := hsr.out; omega
              · have := HAP.out.alt; have := hSt.out.fr.size; omega)
            have hS9 := hSt.out.read HAP.out hsr.out HFF.out hrd9 hf9
            have hownlt : ∀ b, some b = files.ownBlock → b < wr.heap.size := fun b e => (ownBlock_ge hSt.out.arc.own b e).2
            have hFI : FileIs w9 rb R.a base w6.heap.size files.ownBlock (.pointer (some ⟨wr.heap.size, 0, none⟩)) xx := by
              refine ⟨wr.heap.size, _, _, _, xv, rfl, hfl9, hsr.out, (fun e => by have := hownlt _ e; omega), dd, od, capd, hxv, by have := hsr.out; omega, Nat.lt_of_lt_of_le hdlt hf89.size, (fun e => by have := hownlt _ e; omega), rangeAt_fr hf89 hdr hdlt (by omega), hdc, rfl, rfl, rfl⟩
            have e1 : w9.cell? ⟨rb, 1, none⟩ = some files := hA9.rdr.cell 1
            have HS9 := Lib.hid hS9
            have HFI := Lib.hid hFI
            have hz9 : Hid (w6.heap.size ≤ w9.heap.size ∧ w1.heap.size ≤ w9.heap.size) := Lib.hid (by have h1 := hsr.out; have h2 := hR9.size; have h3 := hF9.size; omega)
            have hlenp : ps.length = done.length ∧ done.length < hs.length := by
              have := htd.out
              exact ⟨hA9.fs.1, by rw [← this]; simp⟩
            have hcnt := HT.out.cnt
            obtain ⟨i0, hi, hz0, hz1, hz2⟩ := info_parts infoFP
            clear hf9 hf89 hfl9 hxv hdge hdlt hdr hdc hdlt8 hA9 hF9 hR9 hrd9 hS9 hFI hW9 HFL HSL HRD8 HF8 hownlt d21 z21 d4 gf gu hso
            go_wp2_with (at_builtin; refine wpList_append_own_at _ rfl _ _ 63 rfl w1.heap.size 67 i0 _ 1 8 Tryz.underlying63 hi hz0 hz1 hz2 rfl (by decide) files done.length ps rfl (HS9.out.arc.own.alloc _) ⟨w9.heap.size, 0, none⟩ 1 1 [.pointer (some ⟨wr.heap.size, 0, none⟩)] rfl rfl (cell_one_new _ _ _) ?c1 ?c2 ?c3 ?c4 ?_)
            case c1 => simp [Value.oneCell']
            case c2 => unfold maxLen; omega
            case c3 => omega
            case c4 => rw [World.size_alloc]; have := hz9.out; omega
            intro v' w10 own' gr' _ at'
            obtain ⟨vx, vcap, rfl⟩ := own_form own'
            have hfw : Fr (fun b => some b = files.ownBlock) w9 w10 := ((Fr.refl (fun b => some b = files.ownBlock) w9).alloc (.cells #[.pointer (some ⟨wr.heap.size, 0, none⟩)] 67)).trans2 (Fr.of_grown gr') (fun _ h => h) (fun _ h => h)
            have hrb9 : rb < w9.heap.size := by have := hz9.out; omega
            have hrno : ¬ some rb = files.ownBlock := fun e => by have := (ownBlock_ge HS9.out.arc.own rb e).1; omega
            have e2 : w10.cell? ⟨rb, 1, none⟩ = some files := by rw [hfw.cell hrb9 hrno]; exact e1
            have z2 : w10.frozen? ⟨rb, 1, none⟩ = false := (hfw.blk HS9.out.arc.rdr hrno).frozen 1
            have hat2 : (Value.slice vx (done.length + 1) vcap).ownBlock = files.ownBlock ∨ ∃ g, (Value.slice vx (done.length + 1) vcap).ownBlock = some g ∧ w9.heap.size ≤ g := at'.imp id fun e => ⟨_, e, by omega⟩
            have HFW := Lib.hid hfw
            have HOW' := Lib.hid own'
            have HAT := Lib.hid hat2
            have htd2 : Hid ((done ++ [xx]) ++ rest = hs) := Lib.hid (by have := htd.out; rw [← this]; simp)
            clear hfw own' gr' at' hat2 e1
            go_wp2
            have hnew := HS9.out.add HAP.out HST.out.fr.size HFI.out HOW'.out HFW.out HAT.out
            refine ⟨⟨rfl, _, _, done ++ [xx], rest, htd2, Lib.hid hnew, Lib.hid ?_⟩, ?_⟩
            · have h1 := hz9.out; have h2 := HFW.out.size; show _ ≤ (World.setCell _ _ _).heap.size; simp [World.setCell]; omega
            · rw [leftOf_arc hnew.arc, leftOf_arc hSt.out.arc]
              have := htd.out
              have := congrArg List.length this
              simp at this ⊢
              omega
end Go.Proofs.Zip
