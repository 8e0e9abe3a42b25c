/- A part of a proof over the given program: Hd2. Nothing is assumed here. -/
import Derived.Test.YtidmhfhfcoljeaaGreatDoorZJ
import Derived.Test.YtidmhfhfcoljeaaGreatDoorZH
import Derived.Deep.DeepCutAuto
import Derived.Deep.CutBlock
namespace Go.Proofs.Zip
open Go Go.RowKit
/-- The 46 bytes of a header in the directory. -/
def hdr46 (h : H) (at_ : Int) : List UInt8 := [80, 75, 1, 2] ++ leB 2 h.creator ++ leB 2 h.reader ++ fieldsL h ++ leB 2 h.name.length ++ leB 2 h.extra.length ++ leB 2 h.comment.length ++ leB 2 0 ++ leB 2 0 ++ leB 4 h.ext ++ leB 4 at_
theorem central_split (h : H) (at_ : Int) : centralL h at_ = hdr46 h at_ ++ (h.name ++ h.extra ++ h.comment) := by simp [centralL, hdr46]
theorem hdr46_len (h : H) (at_ : Int) : (hdr46 h at_).length = 46 := by simp [hdr46]
/-- What stands in them. -/
structure HBytes (L : List UInt8) (h : H) (at_ : Int) : Prop where
  len : L.length = 46
  f0 : (n4 L 0 : Int) = 33639248
  f4 : (n2 L 4 : Int) = h.creator
  f6 : (n2 L 6 : Int) = h.reader
  f8 : (n2 L 8 : Int) = h.flags
  f10 : (n2 L 10 : Int) = h.method
  f12 : (n2 L 12 : Int) = h.time
  f14 : (n2 L 14 : Int) = h.date
  f16 : (n4 L 16 : Int) = h.crc
  f20 : (n4 L 20 : Int) = h.packed
  f24 : (n4 L 24 : Int) = h.size
  f28 : (n2 L 28 : Int) = h.name.length
  f30 : (n2 L 30 : Int) = h.extra.length
  f32 : (n2 L 32 : Int) = h.comment.length
  f38 : (n4 L 38 : Int) = h.ext
  f42 : (n4 L 42 : Int) = at_
/-- The fields of a header that is ok. -/
structure HOk (h : H) : Prop where
  creator : 0 ≤ h.creator ∧ h.creator ≤ 65535
  reader : 0 ≤ h.reader ∧ h.reader ≤ 65535
  flags : 0 ≤ h.flags ∧ h.flags ≤ 65535
  method : 0 ≤ h.method ∧ h.method ≤ 65535
  time : 0 ≤ h.time ∧ h.time ≤ 65535
  date : 0 ≤ h.date ∧ h.date ≤ 65535
  crc : 0 ≤ h.crc ∧ h.crc ≤ 4294967295
  packed : 0 ≤ h.packed ∧ h.packed ≤ 4294967294
  size : 0 ≤ h.size ∧ h.size ≤ 4294967294
  ext : 0 ≤ h.ext ∧ h.ext ≤ 4294967295
  name : h.name.length ≤ 60000
  comment : h.comment.length ≤ 60000
  extra : h.extra.length ≤ 60000
theorem HOk.of {h : H} (hh : headerOk h = true) : HOk h := by
  simp only [headerOk, twoB, fourB, within, Bool.and_eq_true, decide_eq_true_eq] at hh
  obtain ⟨⟨⟨⟨⟨⟨⟨⟨⟨a, b⟩, c⟩, d⟩, e⟩, f⟩, ⟨⟨⟨g, i⟩, j⟩, k⟩⟩, l⟩, m⟩, n⟩ := hh
  exact ⟨a, b, c, d, e, f, g, i, j, k, l, m, n⟩
theorem HBytes.of (h : H) (at_ : Int) (hk : HOk h) (h0 : 0 ≤ at_) (h1 : at_ ≤ 4294967295) : HBytes (hdr46 h at_) h at_ := by
  have key2 : ∀ o (n : Int), ((hdr46 h at_).drop o).take 2 = leB 2 n → 0 ≤ n → n ≤ 65535 → (n2 (hdr46 h at_) o : Int) = n := fun o n e a b => by rw [n2, e, leN_leB2 n a b]
  have key4 : ∀ o (n : Int), ((hdr46 h at_).drop o).take 4 = leB 4 n → 0 ≤ n → n ≤ 4294967295 → (n4 (hdr46 h at_) o : Int) = n := fun o n e a b => by rw [n4, e, leN_leB4 n a b]
  have hn := hk.name
  have hx := hk.extra
  have hc := hk.comment
  have e : ∀ n : Int, ∃ a b, leB 2 n = [a, b] := fun n => ⟨_, _, rfl⟩
  have e' : ∀ n : Int, ∃ a b c d, leB 4 n = [a, b, c, d] := fun n => ⟨_, _, _, _, rfl⟩
  obtain ⟨a1, b1, q1⟩ := e h.creator
  obtain ⟨a2, b2, q2⟩ := e h.reader
  obtain ⟨a3, b3, q3⟩ := e h.flags
  obtain ⟨a4, b4, q4⟩ := e h.method
  obtain ⟨a5, b5, q5⟩ := e h.time
  obtain ⟨a6, b6, q6⟩ := e h.date
  obtain ⟨a7, b7, c7, d7, q7⟩ := e' h.crc
  obtain ⟨a8, b8, c8, d8, q8⟩ := e' h.packed
  obtain ⟨a9, b9, c9, d9, q9⟩ := e' h.size
  obtain ⟨a10, b10, q10⟩ := e h.name.length
  obtain ⟨a11, b11, q11⟩ := e h.extra.length
  obtain ⟨a12, b12, q12⟩ := e h.comment.length
  obtain ⟨a13, b13, q13⟩ := e 0
  obtain ⟨a14, b14, c14, d14, q14⟩ := e' h.ext
  obtain ⟨a15, b15, c15, d15, q15⟩ := e' at_
  have hL : hdr46 h at_ = [80, 75, 1, 2, a1, b1, a2, b2, a3, b3, a4, b4, a5, b5, a6, b6, a7, b7, c7, d7, a8, b8, c8, d8, a9, b9, c9, d9, a10, b10, a11, b11, a12, b12, a13, b13, a13, b13, a14, b14, c14, d14, a15, b15, c15, d15] := by
    unfold hdr46 fieldsL; rw [q1, q2, q3, q4, q5, q6, q7, q8, q9, q10, q11, q12, q13, q14, q15]; rfl
  refine ⟨hdr46_len h at_, by rw [n4, hL]; simp [leN], key2 _ _ (by rw [hL, q1]; rfl) hk.creator.1 hk.creator.2, key2 _ _ (by rw [hL, q2]; rfl) hk.reader.1 hk.reader.2, key2 _ _ (by rw [hL, q3]; rfl) hk.flags.1 hk.flags.2, key2 _ _ (by rw [hL, q4]; rfl) hk.method.1 hk.method.2, key2 _ _ (by rw [hL, q5]; rfl) hk.time.1 hk.time.2, key2 _ _ (by rw [hL, q6]; rfl) hk.date.1 hk.date.2,
    key4 _ _ (by rw [hL, q7]; rfl) hk.crc.1 hk.crc.2, key4 _ _ (by rw [hL, q8]; rfl) hk.packed.1 (by have := hk.packed.2; omega), key4 _ _ (by rw [hL, q9]; rfl) hk.size.1 (by have := hk.size.2; omega), key2 _ _ (by rw [hL, q10]; rfl) (by omega) (by omega), key2 _ _ (by rw [hL, q11]; rfl) (by omega) (by omega), key2 _ _ (by rw [hL, q12]; rfl) (by omega) (by omega), key4 _ _ (by rw [hL, q14]; rfl) hk.ext.1 hk.ext.2, key4 _ _ (by rw [hL, q15]; rfl) h0 h1⟩
theorem HS.skip {R : Rdr} {E : Errs} {N0 : Nat} {w0 w : World} {f : Nat} {cs : Array Value} {v g o : Nat} {L l : List UInt8} (h : HS R E w0 w f cs v g o L l) (st : HF R N0 w0 f v g) (o' n : Nat) (hn : L.length - o' = n) : HS R E w0 (w.setCell ⟨v, 0, none⟩ (.slice (some ⟨g, o', none⟩) n n)) f cs v g o' L l :=
  h.next st (h.rs.skip st.vg o' n hn) ((Fr.refl (· = v) _).setCell (fun _ => rfl) _)
/-- The cells of a file whose fields are read, but for the texts. -/
abbrev fileHalf (h : H) (zr zipr : Value) (off : Int) : Array Value := #[.string ⟨#[]⟩, .string ⟨#[]⟩, .bool false, .int .u16 h.creator, .int .u16 h.reader, .int .u16 h.flags, .int .u16 h.method, .int .u64 0, .int .i64 0, .pointer none, .int .u16 h.time, .int .u16 h.date, .int .u32 h.crc, .int .u32 h.packed, .int .u32 h.size, .int .u64 h.packed, .int .u64 h.size, .slice none 0 0, .int .u32 h.ext, zr, zipr, .int .i64 off]
/-- A slice of new memory that reads as l. -/
def SlAt (w : World) (x : Value) (l : List UInt8) (base : Nat) : Prop := ∃ d o cap, x = .slice (some ⟨d, o, none⟩) l.length cap ∧ base ≤ d ∧ d < w.heap.size ∧ w.rangeAt d o (u8s l) ∧ l.length ≤ cap
/-- Whether name and comment are no UTF-8, by what is told of each. -/
def nonOf (a1 a2 b1 b2 z : Bool) : Bool := if !a1 || !b1 then true else if !a2 && !b2 then false else z
def nonU (h : H) : Bool := nonOf (detect h.name).1 (detect h.name).2 (detect h.comment).1 (detect h.comment).2 (bits .and .u16 h.flags 2048 == 0)
abbrev fileTexts (h : H) (non : Bool) (t0 t1 t2 x zr zipr : Value) (off : Int) : Array Value := #[.string (B h.name), .string (B h.comment), .bool non, .int .u16 h.creator, .int .u16 h.reader, .int .u16 h.flags, .int .u16 h.method, t0, t1, t2, .int .u16 h.time, .int .u16 h.date, .int .u32 h.crc, .int .u32 h.packed, .int .u32 h.size, .int .u64 h.packed, .int .u64 h.size, x, .int .u32 h.ext, zr, zipr, .int .i64 off]
/-- The frame at a cut: all is forgotten but the file. -/
def Rl404 (S : World → Prop) (f : Nat) (a : Act) (w : World) : Prop := a.tmps.size = 404 ∧ a.defers = [] ∧ a.tmps.getD 0 undef = .pointer (some ⟨f, 0, none⟩) ∧ S w
/-- The world in which the extra fields begin to be read. -/
structure LWat (R : Rdr) (E : Errs) (N0 : Nat) (w wL : World) (f d N o1 cap1 tm : Nat) (fc : Array Value) (tl extra : List UInt8) : Prop where
  file : Blk wL f fc 80
  rd : RB R E wL tl
  fr : Fr (fun b => b = f ∨ R.has b) w wL
  env : Env wL N0 E
  ex : wL.rangeAt d o1 (u8s extra)
  bytes : Bytes wL d N
  oN : o1 + extra.length ≤ N
  cap : extra.length ≤ cap1
  dn : w.heap.size ≤ d
  tim : IsTim wL tm 0 0 none
  size : wL.heap.size = tm + 1
  dt : d < tm
  tn : w.heap.size ≤ tm
/-- The time that is told besides, behind what has been done since wL. -/
def TimSt (wL : World) (tm : Nat) (w : World) : Prop := Fr (· = tm) wL w ∧ ∃ a b l, IsTim w tm a b l
/-- The frame at a cut: the file, the time. -/
def Rl2 (f tm : Nat) (S : World → Prop) (a : Act) (w : World) : Prop := a.tmps.size = 404 ∧ a.defers = [] ∧ a.tmps.getD 0 undef = .pointer (some ⟨f, 0, none⟩) ∧ a.tmps.getD 20 undef = .pointer (some ⟨tm, 0, none⟩) ∧ S w
/-- The frame of the loop over the extra fields: k bytes are left. -/
def LpI (wL : World) (d N tm f : Nat) (k : Nat) (a : Act) (w : World) : Prop := a.tmps.size = 404 ∧ a.defers = [] ∧ a.tmps.getD 0 undef = .pointer (some ⟨f, 0, none⟩) ∧ a.tmps.getD 20 undef = .pointer (some ⟨tm, 0, none⟩) ∧
  ∃ ex, a.tmps.getD 21 undef = .pointer (some ⟨ex, 0, none⟩) ∧ RbOk w ex d N k ∧ wL.heap.size ≤ ex ∧ TimSt wL tm w
/-- The frame of the loop over the attributes of one extra field. -/
def LpN (w3 : World) (d N tm f ex fb : Nat) (k : Nat) (a : Act) (w : World) : Prop := a.tmps.size = 404 ∧ a.defers = [] ∧ a.tmps.getD 0 undef = .pointer (some ⟨f, 0, none⟩) ∧ a.tmps.getD 20 undef = .pointer (some ⟨tm, 0, none⟩) ∧
  a.tmps.getD 21 undef = .pointer (some ⟨ex, 0, none⟩) ∧ a.tmps.getD 24 undef = .pointer (some ⟨fb, 0, none⟩) ∧ RbOk w fb d N k ∧ Fr (· = tm) w3 w ∧ ∃ a b l, IsTim w tm a b l
/-- The frame behind the MS-DOS time. -/
def R87 (f tm : Nat) (wL : World) (a : Act) (w : World) : Prop := a.tmps.size = 404 ∧ a.defers = [] ∧ a.tmps.getD 0 undef = .pointer (some ⟨f, 0, none⟩) ∧ a.tmps.getD 20 undef = .pointer (some ⟨tm, 0, none⟩) ∧
  ∃ tb, a.tmps.getD 34 undef = .pointer (some ⟨tb, 0, none⟩) ∧ wL.heap.size ≤ tb ∧ (∃ a b l, IsTim w tb a b l) ∧ TimSt wL tm w
theorem bfroz {W w1 : World} (hb : Below W.heap.size W w1) : ∀ b o, b < W.heap.size → w1.frozen? ⟨b, o, none⟩ = W.frozen? ⟨b, o, none⟩ := fun b o h => hb.frozen (p := ⟨b, o, none⟩) h
/-- A store of a time into the file's header. -/
theorem wpList_store_times {ops : Array Oper} {rest : List Oper} {o : Oper} {a : Act} {w : World} {Q : Exit → Act → World → Prop} (hg : o.guard = none) (x y : Operand) (ho : o.op = .store 74 x y) (f : Nat) (h : H) (non : Bool) (t0 t1 t2 xx zr zipr : Value) (off : Int)
    (hb : Blk w f (fileTexts h non t0 t1 t2 xx zr zipr off) 80) (p q : Int) (r : Option Addr) (hx : a.eval x = .pointer (some ⟨f, 7, none⟩)) (hy : a.eval y = .agg #[.int .u64 p, .int .i64 q, .pointer r])
    (hK : ∀ w', Blk w' f (fileTexts h non (.int .u64 p) (.int .i64 q) (.pointer r) xx zr zipr off) 80 → Fr (· = f) w w' → wpList Tryz.prog ops Q rest (a.put o.dst undef) w') : wpList Tryz.prog ops Q (o :: rest) a w := by
  refine wpList_store_mid hg 74 x y ho f 7 #[.int .u64 p, .int .i64 q, .pointer r] hx hy ?_ (by kernel_rfl) (by simp [Value.oneCell']) (hK _ ?_ ?_)
  · intro j hj
    refine ⟨?_, hb.frozen _⟩
    rw [hb.cell]
    have : j < 3 := hj
    match j, this with
    | 0, _ => rfl
    | 1, _ => rfl
    | 2, _ => rfl
  · have := Blk.setCells_at [.int .u64 p, .int .i64 q, .pointer r] 7 w f _ _ hb (by simp)
    exact this
  · exact Fr.setCells (w := w) _ _ (Fr.refl (· = f) _) (fun _ => rfl)
/-- What is true behind a header that is read. -/
def HeadPost (R : Rdr) (E : Errs) (h : H) (at_ : Int) (tl : List UInt8) (f : Nat) (zr zipr : Value) (w : World) (e : Ending) (w' : World) : Prop :=
  e = .returned .nilIface ∧ (∃ wall ext loc x, Blk w' f (fileTexts h (nonU h) (.int .u64 wall) (.int .i64 ext) (.pointer loc) x zr zipr at_) 80 ∧ SlAt w' x h.extra w.heap.size) ∧ RB R E w' tl ∧ Fr (fun b => b = f ∨ R.has b) w w'
/-- The frame behind the test whether a MS-DOS time is told. -/
def R91 (f tm tb : Nat) (S : World → Prop) (a : Act) (w : World) : Prop := a.tmps.size = 404 ∧ a.defers = [] ∧ a.tmps.getD 0 undef = .pointer (some ⟨f, 0, none⟩) ∧ a.tmps.getD 20 undef = .pointer (some ⟨tm, 0, none⟩) ∧ a.tmps.getD 34 undef = .pointer (some ⟨tb, 0, none⟩) ∧
  ∃ b, a.tmps.getD 393 undef = .bool b ∧ S w
theorem six {w w' : World} {tm tb : Nat} {x1 x2 y1 y2 : Int} {x3 y3 : Option Addr} (hf : Fr (fun _ => False) w w') (h1 : IsTim w tm x1 x2 x3) (h2 : IsTim w tb y1 y2 y3) : w'.cell? ⟨tm, 0, none⟩ = some (.int .u64 x1) ∧ w'.cell? ⟨tm, 1, none⟩ = some (.int .i64 x2) ∧ w'.cell? ⟨tm, 2, none⟩ = some (.pointer x3) ∧ w'.cell? ⟨tb, 0, none⟩ = some (.int .u64 y1) ∧ w'.cell? ⟨tb, 1, none⟩ = some (.int .i64 y2) ∧ w'.cell? ⟨tb, 2, none⟩ = some (.pointer y3) :=
  ⟨(hf.blk h1 id).cell 0, (hf.blk h1 id).cell 1, (hf.blk h1 id).cell 2, (hf.blk h2 id).cell 0, (hf.blk h2 id).cell 1, (hf.blk h2 id).cell 2⟩
theorem sixF {w : World} {f : Nat} {h : H} {non : Bool} {t0 t1 t2 xx zr zipr : Value} {off : Int} (hb : Blk w f (fileTexts h non t0 t1 t2 xx zr zipr off) 80) :
    w.cell? ⟨f, 7, none⟩ = some t0 ∧ w.cell? ⟨f, 8, none⟩ = some t1 ∧ w.cell? ⟨f, 9, none⟩ = some t2 ∧ w.frozen? ⟨f, 7, none⟩ = false ∧ w.frozen? ⟨f, 8, none⟩ = false ∧ w.frozen? ⟨f, 9, none⟩ = false :=
  ⟨hb.cell 7, hb.cell 8, hb.cell 9, hb.frozen 7, hb.frozen 8, hb.frozen 9⟩
/-- A cut of a slice of bytes. -/
theorem run_cut_bytes (d N lo hi : Nat) (h1 : lo ≤ hi) (h2 : hi ≤ N) (w : World) : (Instr.slice 76 (.slice (some ⟨d, 0, none⟩) N N) (some (.int .i64 lo)) (some (.int .i64 hi)) none).run Tryz.prog w = .ok (.slice (adv d 0 lo N) (hi - lo) (N - lo)) w := by
  rw [run_slice_lh w 76 _ _ _ (by kernel_rfl) _ _ _ _ (by omega) (by omega) (by omega)]
  have hs : (sizeOf (Tryz.prog.elem 76)).run Tryz.prog w = .ok 1 w := by kernel_rfl
  rw [hs]
  simp only [Result.andThen, sliced, adv, Int.toNat_natCast, Nat.mul_one, Option.map_some, add_at]
theorem run_cut_bytes_l (d N lo : Nat) (h1 : lo ≤ N) (w : World) : (Instr.slice 76 (.slice (some ⟨d, 0, none⟩) N N) (some (.int .i64 lo)) none none).run Tryz.prog w = .ok (.slice (adv d 0 lo N) (N - lo) (N - lo)) w := by
  rw [run_slice_l w 76 _ _ _ (by kernel_rfl) _ _ (by omega) (by omega)]
  have hs : (sizeOf (Tryz.prog.elem 76)).run Tryz.prog w = .ok 1 w := by kernel_rfl
  rw [hs]
  simp only [Result.andThen, sliced, adv, Int.toNat_natCast, Nat.mul_one, Option.map_some, add_at]
theorem adv_cells {w : World} {d lo N : Nat} {l m : List UInt8} (h : w.rangeAt d 0 (u8s l)) (hm : (l.drop lo).take m.length = m) (hN : N = l.length) (hlo : lo ≤ N) : ∃ o, adv d 0 lo N = some ⟨d, o, none⟩ ∧ w.rangeAt d o (u8s m) ∧ o + m.length ≤ N := by
  unfold adv
  by_cases hc : N = lo
  · rw [if_pos hc]
    have : m = [] := by rw [← hm, drop_nil_of_le (by omega)]; simp
    subst this
    exact ⟨0, rfl, fun j v hj => by simp [u8s] at hj, by simp⟩
  · rw [if_neg hc]
    refine ⟨0 + lo, rfl, ?_, ?_⟩
    · refine rangeAt_part h ?_
      rw [length_u8s, u8s_sub', hm]
    · have := congrArg List.length hm
      rw [List.length_take, List.length_drop] at this
      omega
theorem conv_cells {w : World} {d o cap : Nat} {m : List UInt8} (h : w.rangeAt d o (u8s m)) : (convert 76 9 (.slice (some ⟨d, o, none⟩) m.length cap)).run Tryz.prog w = .ok (.string (B m)) w :=
  run_convert_bytes_back w _ _ _ _ cap m Tryz.underlying76 Tryz.underlying5 Tryz.underlying9 fun j hj => by
    rw [add_at]; exact h j _ (by simp [u8s, hj])
set_option maxRecDepth 100000 in
set_option maxHeartbeats 8000000 in
theorem header_ok (R : Rdr) (E : Errs) (N0 : Nat) (h : H) (at_ : Int) (tl : List UInt8) (f : Nat) (zr zipr : Value) (w : World) (hR : R.Ok N0) (hE : Env w N0 E) (hf : Blk w f (fileZero zr zipr) 80) (hN : N0 ≤ f) (hfR : ¬ (R.has f ∨ f = R.a)) (hrd : RB R E w (centralL h at_ ++ tl)) (hh : headerOk h = true) (hat0 : 0 ≤ at_) (hat1 : at_ ≤ 4294967294) :
    Calls Tryz.prog 87 #[.pointer (some ⟨f, 0, none⟩), bufv R.bb] w (HeadPost R E h at_ tl f zr zipr w) := by
  have hk := HOk.of hh
  have HB0 := HBytes.of h at_ hk hat0 (by omega)
  obtain ⟨L, hLe⟩ : ∃ L, L = hdr46 h at_ := ⟨_, rfl⟩
  rw [← hLe] at HB0
  have hlt : ∀ b, R.has b ∨ b = R.a → b < w.heap.size := hrd.lt
  have HH := Lib.hid hrd
  have HE := Lib.hid hE
  have HR := Lib.hid hR
  have HLT := Lib.hid hlt
  have hflt := hf.lt
  have HFf := Lib.hid hf
  have HFR := Lib.hid hfR
  have hNw := hE.le
  have HL := Lib.hid hLe
  have HB := HB0
  have hnl := hk.name
  have hxl := hk.extra
  have hcl := hk.comment
  have HK := Lib.hid hk
  have hpw : IntKind.u64.wrap h.packed = h.packed := by rw [IntKind.wrap_u64]; have := hk.packed; omega
  have hsw : IntKind.u64.wrap h.size = h.size := by rw [IntKind.wrap_u64]; have := hk.size; omega
  clear hrd hE hR hlt hf hfR hLe HB0 hk hh
  go_enter Tryz.func87, Tryz.ntmps87
  go_wp2_with fail
  go_step3
  go_wp2_with (refine wpList_alloc_big rfl 203 rfl 46 (by kernel_rfl) ?_)
  intro cs hcs
  have hB0 : Fr (fun _ => False) w (w.alloc (.cells cs 203)) := (Fr.refl _ w).alloc _
  have HC : Hid (Calls Tryz.prog 115 #[bufv R.bb, .slice (some ⟨w.heap.size, 0, none⟩) 46 46] (w.alloc (.cells cs 203)) fun e w' => e = .returned (.tuple #[.int .i64 46, .nilIface]) ∧ Hid (Blk w' w.heap.size (u8s L).toArray 203 ∧ RB R E w' (h.name ++ h.extra ++ h.comment ++ tl) ∧ Fr (fun b => b = w.heap.size ∨ R.has b) (w.alloc (.cells cs 203)) w')) := by
    refine Lib.hid ((rbFull_any R E N0 w.heap.size 46 46 _ cs _ _ HR.out (HE.out.fr hB0 (fun _ h => h.elim)) (HH.out.fr hB0 (fun _ _ h => h)) (Blk.new w cs _) (by omega) (Nat.le_refl _) (by omega) (by omega) (fun hb => Nat.lt_irrefl _ (HLT.out _ hb))).mono ?_)
    have e1 : centralL h at_ ++ tl = L ++ (h.name ++ h.extra ++ h.comment ++ tl) := by rw [HL.out, central_split, List.append_assoc]
    have hl46 := HB.len
    have e2 : (L ++ (h.name ++ h.extra ++ h.comment ++ tl)).take 46 = L := by rw [← hl46, List.take_left']; rfl
    have e3 : (L ++ (h.name ++ h.extra ++ h.comment ++ tl)).drop 46 = h.name ++ h.extra ++ h.comment ++ tl := by rw [← hl46, List.drop_left']; rfl
    rw [e1, e2, e3, hl46, fullErr, if_pos (by rw [List.length_append]; omega), put_all cs L (by omega)]
    rintro e w' ⟨h1, h2, h3, h4⟩
    exact ⟨h1, Lib.hid ⟨h2, h3, h4⟩⟩
  go_wp2_with fail
  refine HC.out.mono ?_
  rintro e w1 ⟨rfl, hw1⟩
  have hz1 : w.heap.size + 1 ≤ w1.heap.size := by have := hw1.out.2.2.size; rw [World.size_alloc] at this; exact this
  have st : Hid (HF R N0 w f w1.heap.size w.heap.size) := Lib.hid ⟨HR.out, hflt, HFR.out, HLT.out, by omega, Nat.le_refl _, by omega⟩
  clear HC
  go_wp2_with fail
  have HS0 : Hid (HS R E w (w1.alloc (.cells #[.slice (some ⟨w.heap.size, 0, none⟩) 46 46] 194)) f (fileZero zr zipr) w1.heap.size w.heap.size 0 L (h.name ++ h.extra ++ h.comment ++ tl)) := by
    obtain ⟨h2, h3, h4⟩ := hw1.out
    have hfa : Fr (fun b => b = f ∨ R.has b) w w1 := (hB0.mono (T := fun b => b = f ∨ R.has b) (fun _ _ h => h.elim)).trans h4 (fun i hi e => e.elim (fun e => absurd hi (by omega)) .inr)
    refine Lib.hid ⟨(h4.blk (HFf.out.alloc _) (by rintro (e | e); omega; exact HFR.out (.inl e))).alloc _, ⟨⟨_, by rw [HB.len]; exact Blk.new _ _ _, fun _ => rfl⟩, h2.alloc _⟩, h3.fr ((Fr.refl (fun _ => False) w1).alloc _) (fun _ _ h => h), hfa.alloc _⟩
  refine (HS0.out.u32 st.out 33639248 HB.f0 (by have := HB.len; omega)).mono ?_
  rintro e w2 ⟨rfl, hs⟩
  have HS1 := Lib.hid hs
  clear hs HS0
  go_wp2_with fail
  -- h.creator
  refine ((HS1.out).u16 st.out h.creator HB.f4 (by have := HB.len; omega)).mono ?_
  rintro e w3 ⟨rfl, hs⟩
  have cc : w3.cell? ⟨f, 3, none⟩ = some (.int .u16 0) := hs.file.cell 3
  have cz : w3.frozen? ⟨f, 3, none⟩ = false := hs.file.frozen 3
  have HS3 : Hid (HS R E w (w3.setCell ⟨f, 3, none⟩ (.int .u16 h.creator)) f #[.string ⟨#[]⟩, .string ⟨#[]⟩, .bool false, .int .u16 h.creator, .int .u16 0, .int .u16 0, .int .u16 0, .int .u64 0, .int .i64 0, .pointer none, .int .u16 0, .int .u16 0, .int .u32 0, .int .u32 0, .int .u32 0, .int .u64 0, .int .u64 0, .slice none 0 0, .int .u32 0, zr, zipr, .int .i64 0] w1.heap.size w.heap.size 6 L (h.name ++ h.extra ++ h.comment ++ tl)) := Lib.hid (hs.set st.out 3 (.int .u16 h.creator))
  clear hs
  go_wp2_with fail
  clear cc cz
  -- h.reader
  refine ((HS3.out).u16 st.out h.reader HB.f6 (by have := HB.len; omega)).mono ?_
  rintro e w4 ⟨rfl, hs⟩
  have cc : w4.cell? ⟨f, 4, none⟩ = some (.int .u16 0) := hs.file.cell 4
  have cz : w4.frozen? ⟨f, 4, none⟩ = false := hs.file.frozen 4
  have HS4 : Hid (HS R E w (w4.setCell ⟨f, 4, none⟩ (.int .u16 h.reader)) f #[.string ⟨#[]⟩, .string ⟨#[]⟩, .bool false, .int .u16 h.creator, .int .u16 h.reader, .int .u16 0, .int .u16 0, .int .u64 0, .int .i64 0, .pointer none, .int .u16 0, .int .u16 0, .int .u32 0, .int .u32 0, .int .u32 0, .int .u64 0, .int .u64 0, .slice none 0 0, .int .u32 0, zr, zipr, .int .i64 0] w1.heap.size w.heap.size 8 L (h.name ++ h.extra ++ h.comment ++ tl)) := Lib.hid (hs.set st.out 4 (.int .u16 h.reader))
  clear hs
  go_wp2_with fail
  clear cc cz HS3
  -- h.flags
  refine ((HS4.out).u16 st.out h.flags HB.f8 (by have := HB.len; omega)).mono ?_
  rintro e w5 ⟨rfl, hs⟩
  have cc : w5.cell? ⟨f, 5, none⟩ = some (.int .u16 0) := hs.file.cell 5
  have cz : w5.frozen? ⟨f, 5, none⟩ = false := hs.file.frozen 5
  have HS5 : Hid (HS R E w (w5.setCell ⟨f, 5, none⟩ (.int .u16 h.flags)) f #[.string ⟨#[]⟩, .string ⟨#[]⟩, .bool false, .int .u16 h.creator, .int .u16 h.reader, .int .u16 h.flags, .int .u16 0, .int .u64 0, .int .i64 0, .pointer none, .int .u16 0, .int .u16 0, .int .u32 0, .int .u32 0, .int .u32 0, .int .u64 0, .int .u64 0, .slice none 0 0, .int .u32 0, zr, zipr, .int .i64 0] w1.heap.size w.heap.size 10 L (h.name ++ h.extra ++ h.comment ++ tl)) := Lib.hid (hs.set st.out 5 (.int .u16 h.flags))
  clear hs
  go_wp2_with fail
  clear cc cz HS4
  -- h.method
  refine ((HS5.out).u16 st.out h.method HB.f10 (by have := HB.len; omega)).mono ?_
  rintro e w6 ⟨rfl, hs⟩
  have cc : w6.cell? ⟨f, 6, none⟩ = some (.int .u16 0) := hs.file.cell 6
  have cz : w6.frozen? ⟨f, 6, none⟩ = false := hs.file.frozen 6
  have HS6 : Hid (HS R E w (w6.setCell ⟨f, 6, none⟩ (.int .u16 h.method)) f #[.string ⟨#[]⟩, .string ⟨#[]⟩, .bool false, .int .u16 h.creator, .int .u16 h.reader, .int .u16 h.flags, .int .u16 h.method, .int .u64 0, .int .i64 0, .pointer none, .int .u16 0, .int .u16 0, .int .u32 0, .int .u32 0, .int .u32 0, .int .u64 0, .int .u64 0, .slice none 0 0, .int .u32 0, zr, zipr, .int .i64 0] w1.heap.size w.heap.size 12 L (h.name ++ h.extra ++ h.comment ++ tl)) := Lib.hid (hs.set st.out 6 (.int .u16 h.method))
  clear hs
  go_wp2_with fail
  clear cc cz HS5
  -- h.time
  refine ((HS6.out).u16 st.out h.time HB.f12 (by have := HB.len; omega)).mono ?_
  rintro e w7 ⟨rfl, hs⟩
  have cc : w7.cell? ⟨f, 10, none⟩ = some (.int .u16 0) := hs.file.cell 10
  have cz : w7.frozen? ⟨f, 10, none⟩ = false := hs.file.frozen 10
  have HS7 : Hid (HS R E w (w7.setCell ⟨f, 10, none⟩ (.int .u16 h.time)) f #[.string ⟨#[]⟩, .string ⟨#[]⟩, .bool false, .int .u16 h.creator, .int .u16 h.reader, .int .u16 h.flags, .int .u16 h.method, .int .u64 0, .int .i64 0, .pointer none, .int .u16 h.time, .int .u16 0, .int .u32 0, .int .u32 0, .int .u32 0, .int .u64 0, .int .u64 0, .slice none 0 0, .int .u32 0, zr, zipr, .int .i64 0] w1.heap.size w.heap.size 14 L (h.name ++ h.extra ++ h.comment ++ tl)) := Lib.hid (hs.set st.out 10 (.int .u16 h.time))
  clear hs
  go_wp2_with fail
  clear cc cz HS6
  -- h.date
  refine ((HS7.out).u16 st.out h.date HB.f14 (by have := HB.len; omega)).mono ?_
  rintro e w8 ⟨rfl, hs⟩
  have cc : w8.cell? ⟨f, 11, none⟩ = some (.int .u16 0) := hs.file.cell 11
  have cz : w8.frozen? ⟨f, 11, none⟩ = false := hs.file.frozen 11
  have HS8 : Hid (HS R E w (w8.setCell ⟨f, 11, none⟩ (.int .u16 h.date)) f #[.string ⟨#[]⟩, .string ⟨#[]⟩, .bool false, .int .u16 h.creator, .int .u16 h.reader, .int .u16 h.flags, .int .u16 h.method, .int .u64 0, .int .i64 0, .pointer none, .int .u16 h.time, .int .u16 h.date, .int .u32 0, .int .u32 0, .int .u32 0, .int .u64 0, .int .u64 0, .slice none 0 0, .int .u32 0, zr, zipr, .int .i64 0] w1.heap.size w.heap.size 16 L (h.name ++ h.extra ++ h.comment ++ tl)) := Lib.hid (hs.set st.out 11 (.int .u16 h.date))
  clear hs
  go_wp2_with fail
  clear cc cz HS7
  -- h.crc
  refine ((HS8.out).u32 st.out h.crc HB.f16 (by have := HB.len; omega)).mono ?_
  rintro e w9 ⟨rfl, hs⟩
  have cc : w9.cell? ⟨f, 12, none⟩ = some (.int .u32 0) := hs.file.cell 12
  have cz : w9.frozen? ⟨f, 12, none⟩ = false := hs.file.frozen 12
  have HS9 : Hid (HS R E w (w9.setCell ⟨f, 12, none⟩ (.int .u32 h.crc)) f #[.string ⟨#[]⟩, .string ⟨#[]⟩, .bool false, .int .u16 h.creator, .int .u16 h.reader, .int .u16 h.flags, .int .u16 h.method, .int .u64 0, .int .i64 0, .pointer none, .int .u16 h.time, .int .u16 h.date, .int .u32 h.crc, .int .u32 0, .int .u32 0, .int .u64 0, .int .u64 0, .slice none 0 0, .int .u32 0, zr, zipr, .int .i64 0] w1.heap.size w.heap.size 20 L (h.name ++ h.extra ++ h.comment ++ tl)) := Lib.hid (hs.set st.out 12 (.int .u32 h.crc))
  clear hs
  go_wp2_with fail
  clear cc cz HS8
  -- h.packed
  refine ((HS9.out).u32 st.out h.packed HB.f20 (by have := HB.len; omega)).mono ?_
  rintro e w10 ⟨rfl, hs⟩
  have cc : w10.cell? ⟨f, 13, none⟩ = some (.int .u32 0) := hs.file.cell 13
  have cz : w10.frozen? ⟨f, 13, none⟩ = false := hs.file.frozen 13
  have HS10 : Hid (HS R E w (w10.setCell ⟨f, 13, none⟩ (.int .u32 h.packed)) f #[.string ⟨#[]⟩, .string ⟨#[]⟩, .bool false, .int .u16 h.creator, .int .u16 h.reader, .int .u16 h.flags, .int .u16 h.method, .int .u64 0, .int .i64 0, .pointer none, .int .u16 h.time, .int .u16 h.date, .int .u32 h.crc, .int .u32 h.packed, .int .u32 0, .int .u64 0, .int .u64 0, .slice none 0 0, .int .u32 0, zr, zipr, .int .i64 0] w1.heap.size w.heap.size 24 L (h.name ++ h.extra ++ h.comment ++ tl)) := Lib.hid (hs.set st.out 13 (.int .u32 h.packed))
  clear hs
  go_wp2_with fail
  clear cc cz HS9
  -- h.size
  refine ((HS10.out).u32 st.out h.size HB.f24 (by have := HB.len; omega)).mono ?_
  rintro e w11 ⟨rfl, hs⟩
  have cc : w11.cell? ⟨f, 14, none⟩ = some (.int .u32 0) := hs.file.cell 14
  have cz : w11.frozen? ⟨f, 14, none⟩ = false := hs.file.frozen 14
  have c13 : w11.cell? ⟨f, 13, none⟩ = some (.int .u32 h.packed) := hs.file.cell 13
  have c15 : w11.cell? ⟨f, 15, none⟩ = some (.int .u64 0) := hs.file.cell 15
  have z15 : w11.frozen? ⟨f, 15, none⟩ = false := hs.file.frozen 15
  have c16 : w11.cell? ⟨f, 16, none⟩ = some (.int .u64 0) := hs.file.cell 16
  have z16 : w11.frozen? ⟨f, 16, none⟩ = false := hs.file.frozen 16
  have HS11 : Hid (HS R E w (w11.setCell ⟨f, 14, none⟩ (.int .u32 h.size)) f #[.string ⟨#[]⟩, .string ⟨#[]⟩, .bool false, .int .u16 h.creator, .int .u16 h.reader, .int .u16 h.flags, .int .u16 h.method, .int .u64 0, .int .i64 0, .pointer none, .int .u16 h.time, .int .u16 h.date, .int .u32 h.crc, .int .u32 h.packed, .int .u32 h.size, .int .u64 0, .int .u64 0, .slice none 0 0, .int .u32 0, zr, zipr, .int .i64 0] w1.heap.size w.heap.size 28 L (h.name ++ h.extra ++ h.comment ++ tl)) := Lib.hid (hs.set st.out 14 (.int .u32 h.size))
  have HS11b : Hid (HS R E w ((w11.setCell ⟨f, 14, none⟩ (.int .u32 h.size)).setCell ⟨f, 15, none⟩ (.int .u64 h.packed)) f #[.string ⟨#[]⟩, .string ⟨#[]⟩, .bool false, .int .u16 h.creator, .int .u16 h.reader, .int .u16 h.flags, .int .u16 h.method, .int .u64 0, .int .i64 0, .pointer none, .int .u16 h.time, .int .u16 h.date, .int .u32 h.crc, .int .u32 h.packed, .int .u32 h.size, .int .u64 h.packed, .int .u64 0, .slice none 0 0, .int .u32 0, zr, zipr, .int .i64 0] w1.heap.size w.heap.size 28 L (h.name ++ h.extra ++ h.comment ++ tl)) := Lib.hid (HS11.out.set st.out 15 (.int .u64 h.packed))
  have HS11c : Hid (HS R E w (((w11.setCell ⟨f, 14, none⟩ (.int .u32 h.size)).setCell ⟨f, 15, none⟩ (.int .u64 h.packed)).setCell ⟨f, 16, none⟩ (.int .u64 h.size)) f #[.string ⟨#[]⟩, .string ⟨#[]⟩, .bool false, .int .u16 h.creator, .int .u16 h.reader, .int .u16 h.flags, .int .u16 h.method, .int .u64 0, .int .i64 0, .pointer none, .int .u16 h.time, .int .u16 h.date, .int .u32 h.crc, .int .u32 h.packed, .int .u32 h.size, .int .u64 h.packed, .int .u64 h.size, .slice none 0 0, .int .u32 0, zr, zipr, .int .i64 0] w1.heap.size w.heap.size 28 L (h.name ++ h.extra ++ h.comment ++ tl)) := Lib.hid (HS11b.out.set st.out 16 (.int .u64 h.size))
  clear hs
  go_wp2_with fail
  clear cc cz c13 c15 z15 c16 z16 HS11 HS11b HS10
  refine ((HS11c.out).u16 st.out h.name.length HB.f28 (by have := HB.len; omega)).mono ?_
  rintro e w12 ⟨rfl, hs⟩
  have HS12 := Lib.hid hs
  clear hs HS11c
  go_wp2_with fail
  refine ((HS12.out).u16 st.out h.extra.length HB.f30 (by have := HB.len; omega)).mono ?_
  rintro e w13 ⟨rfl, hs⟩
  have HS13 := Lib.hid hs
  clear hs HS12
  go_wp2_with fail
  refine ((HS13.out).u16 st.out h.comment.length HB.f32 (by have := HB.len; omega)).mono ?_
  rintro e w14 ⟨rfl, hs⟩
  obtain ⟨cv, zv⟩ := hs.rs.at 12 (by have := HB.len; omega) (by have := HB.len; omega)
  have HS14 : Hid (HS R E w (w14.setCell ⟨w1.heap.size, 0, none⟩ (.slice (some ⟨w.heap.size, 38, none⟩) 8 8)) f #[.string ⟨#[]⟩, .string ⟨#[]⟩, .bool false, .int .u16 h.creator, .int .u16 h.reader, .int .u16 h.flags, .int .u16 h.method, .int .u64 0, .int .i64 0, .pointer none, .int .u16 h.time, .int .u16 h.date, .int .u32 h.crc, .int .u32 h.packed, .int .u32 h.size, .int .u64 h.packed, .int .u64 h.size, .slice none 0 0, .int .u32 0, zr, zipr, .int .i64 0] w1.heap.size w.heap.size 38 L (h.name ++ h.extra ++ h.comment ++ tl)) := Lib.hid (hs.skip st.out 38 8 (by have := HB.len; omega))
  clear hs HS13
  go_wp2_with fail
  clear cv zv
  refine ((HS14.out).u32 st.out h.ext HB.f38 (by have := HB.len; omega)).mono ?_
  rintro e w15 ⟨rfl, hs⟩
  have cc : w15.cell? ⟨f, 18, none⟩ = some (.int .u32 0) := hs.file.cell 18
  have cz : w15.frozen? ⟨f, 18, none⟩ = false := hs.file.frozen 18
  have HS15 : Hid (HS R E w (w15.setCell ⟨f, 18, none⟩ (.int .u32 h.ext)) f #[.string ⟨#[]⟩, .string ⟨#[]⟩, .bool false, .int .u16 h.creator, .int .u16 h.reader, .int .u16 h.flags, .int .u16 h.method, .int .u64 0, .int .i64 0, .pointer none, .int .u16 h.time, .int .u16 h.date, .int .u32 h.crc, .int .u32 h.packed, .int .u32 h.size, .int .u64 h.packed, .int .u64 h.size, .slice none 0 0, .int .u32 h.ext, zr, zipr, .int .i64 0] w1.heap.size w.heap.size 42 L (h.name ++ h.extra ++ h.comment ++ tl)) := Lib.hid (hs.set st.out 18 (.int .u32 h.ext))
  clear hs HS14
  go_wp2_with fail
  clear cc cz
  refine ((HS15.out).u32 st.out at_ HB.f42 (by have := HB.len; omega)).mono ?_
  rintro e w16 ⟨rfl, hs⟩
  have cc : w16.cell? ⟨f, 21, none⟩ = some (.int .i64 0) := hs.file.cell 21
  have cz : w16.frozen? ⟨f, 21, none⟩ = false := hs.file.frozen 21
  have HS16 : Hid (HS R E w (w16.setCell ⟨f, 21, none⟩ (.int .i64 at_)) f #[.string ⟨#[]⟩, .string ⟨#[]⟩, .bool false, .int .u16 h.creator, .int .u16 h.reader, .int .u16 h.flags, .int .u16 h.method, .int .u64 0, .int .i64 0, .pointer none, .int .u16 h.time, .int .u16 h.date, .int .u32 h.crc, .int .u32 h.packed, .int .u32 h.size, .int .u64 h.packed, .int .u64 h.size, .slice none 0 0, .int .u32 h.ext, zr, zipr, .int .i64 at_] w1.heap.size w.heap.size 46 L (h.name ++ h.extra ++ h.comment ++ tl)) := Lib.hid (hs.set st.out 21 (.int .i64 at_))
  clear hs HS15
  clear HS1
  go_upto_region 26 with fail
  clear cc cz
  obtain ⟨N, hNN⟩ : ∃ N, N = h.name.length + h.extra.length + h.comment.length := ⟨_, rfl⟩
  have hNc : ((h.name.length : Int) + h.extra.length + h.comment.length) = (N : Int) := by omega
  have hNl : N ≤ 180000 := by omega
  have HN := Lib.hid hNN
  clear hNN
  go_wp2_with (refine wpList_make_bytes rfl _ _ rfl N rfl rfl (by omega) ?_)
  intro w17 ds hd hdsz hbl17 hlt17
  have hszs : (w16.setCell ⟨f, 21, none⟩ (.int .i64 at_)).heap.size = w16.heap.size := by simp [World.setCell]
  have hw16 : w.heap.size ≤ w16.heap.size := by have := HS16.out.fr.size; omega
  have HT17 : Hid (Blk w17 f (fileHalf h zr zipr at_) 80 ∧ RB R E w17 (h.name ++ h.extra ++ h.comment ++ tl) ∧ Fr (fun b => b = f ∨ R.has b) w w17) := by
    have hb : Below (w16.setCell ⟨f, 21, none⟩ (.int .i64 at_)).heap.size (w16.setCell ⟨f, 21, none⟩ (.int .i64 at_)) w17 := by rw [hszs]; exact hbl17
    exact Lib.hid ⟨below_blk hb HS16.out.file, HS16.out.rd.fr (Fr.of_below (S := fun _ => False) hb) (fun _ _ h => h), HS16.out.fr.trans2 (Fr.of_below (S := fun _ => False) hb) (fun _ h => h) (fun _ h => h.elim)⟩
  have HC2 : Hid (Calls Tryz.prog 115 #[bufv R.bb, .slice (some ⟨w16.heap.size, 0, none⟩) N N] w17 fun e w' => e = .returned (.tuple #[.int .i64 N, .nilIface]) ∧ Hid (Blk w' w16.heap.size (u8s (h.name ++ h.extra ++ h.comment)).toArray 5 ∧ RB R E w' tl ∧ Fr (fun b => b = w16.heap.size ∨ R.has b) w17 w')) := by
    obtain ⟨h1, h2, h3⟩ := HT17.out
    have hlow := HR.out.low
    refine Lib.hid ((rbFull_any R E N0 w16.heap.size N N _ ds _ _ HR.out (HE.out.fr h3 (by rintro b (e | e); omega; exact hlow b e)) h2 hd (by omega) (Nat.le_refl _) (by omega) (by omega) (fun hb => by have := HLT.out _ hb; omega)).mono ?_)
    have hl : (h.name ++ h.extra ++ h.comment).length = N := by rw [HN.out]; simp; omega
    have e2 : (h.name ++ h.extra ++ h.comment ++ tl).take N = h.name ++ h.extra ++ h.comment := by rw [← hl, List.take_left']; rfl
    have e3 : (h.name ++ h.extra ++ h.comment ++ tl).drop N = tl := by rw [← hl, List.drop_left']; rfl
    rw [e2, e3, hl, fullErr, if_pos (by rw [List.length_append]; omega), put_all ds _ (by omega)]
    rintro e w' ⟨h1, h2, h3, h4⟩
    exact ⟨h1, Lib.hid ⟨h2, h3, h4⟩⟩
  clear hd hdsz hbl17 hpw hsw HS16
  go_wp2_with fail
  refine HC2.out.mono ?_
  rintro e w18 ⟨rfl, hw18⟩
  have HT18 : Hid (Blk w18 f (fileHalf h zr zipr at_) 80 ∧ Fr (fun b => b = f ∨ R.has b) w w18 ∧ w17.heap.size ≤ w18.heap.size) := by
    obtain ⟨h1, h2, h3⟩ := HT17.out
    obtain ⟨k1, k2, k3⟩ := hw18.out
    refine Lib.hid ⟨k3.blk h1 (by rintro (e | e); omega; exact HFR.out (.inl e)), h3.trans k3 (fun i hi e => e.elim (fun e => absurd hi (by omega)) .inr), k3.size⟩
  clear HC2 HT17
  obtain ⟨T, hTe⟩ : ∃ T, T = h.name ++ h.extra ++ h.comment := ⟨_, rfl⟩
  have hTN : T.length = N := by rw [hTe, HN.out]; simp; omega
  have hr18 : w18.rangeAt w16.heap.size 0 (u8s T) := by
    have := hw18.out.1.range (o := 0) (xs := u8s T) (by rw [← hTe, List.drop_zero]; exact List.take_of_length_le (Nat.le_refl _))
    exact this
  obtain ⟨o1, ho1, hx1, hoN⟩ := adv_cells (lo := h.name.length) (m := h.extra) hr18 (by rw [hTe]; simp) hTN.symm (by rw [HN.out]; omega)
  obtain ⟨o2, ho2, hx2, -⟩ := adv_cells (lo := h.name.length + h.extra.length) (m := h.comment) hr18 (by rw [hTe, ← List.length_append, List.drop_left', List.take_of_length_le (Nat.le_refl _)]; rfl) hTN.symm (by rw [HN.out]; omega)
  have hx0 : w18.rangeAt w16.heap.size 0 (u8s h.name) := by
    intro j v hj
    exact hr18 j v (by rw [hTe, u8s_append, u8s_append, List.append_assoc, List.getElem?_append_left (List.getElem?_eq_some_iff.1 hj).1]; exact hj)
  have s0 := run_cut_bytes w16.heap.size N 0 h.name.length (by omega) (by rw [HN.out]; omega)
  have s1 : ∀ W, (Instr.slice 76 (.slice (some ⟨w16.heap.size, 0, none⟩) N N) (some (.int .i64 (h.name.length : Int))) (some (.int .i64 ((h.name.length : Int) + h.extra.length))) none).run Tryz.prog W = .ok (.slice (some ⟨w16.heap.size, o1, none⟩) h.extra.length (N - h.name.length)) W := fun W => by
    have := run_cut_bytes w16.heap.size N h.name.length (h.name.length + h.extra.length) (by omega) (by rw [HN.out]; omega) W
    rw [ho1, Nat.add_sub_cancel_left] at this
    simpa using this
  have s2 : ∀ W, (Instr.slice 76 (.slice (some ⟨w16.heap.size, 0, none⟩) N N) (some (.int .i64 ((h.name.length : Int) + h.extra.length))) none none).run Tryz.prog W = .ok (.slice (some ⟨w16.heap.size, o2, none⟩) h.comment.length (N - (h.name.length + h.extra.length))) W := fun W => by
    have := run_cut_bytes_l w16.heap.size N (h.name.length + h.extra.length) (by rw [HN.out]; omega) W
    rw [ho2, show N - (h.name.length + h.extra.length) = h.comment.length by rw [HN.out]; omega] at this
    rw [show N - (h.name.length + h.extra.length) = h.comment.length by rw [HN.out]; omega]
    simpa using this
  have hnN : (h.name.length : Int) ≤ N := by rw [HN.out]; omega
  obtain ⟨cap1, hcap1⟩ : ∃ c, c = N - h.name.length := ⟨_, rfl⟩
  obtain ⟨cap2, hcap2⟩ : ∃ c, c = N - (h.name.length + h.extra.length) := ⟨_, rfl⟩
  have hff : ∀ x y, w18.rangeAt w16.heap.size x (u8s y) → ((w18.setCell ⟨f, 0, none⟩ (.string (B h.name))).setCell ⟨f, 17, none⟩ (.slice (some ⟨w16.heap.size, o1, none⟩) h.extra.length cap1)).rangeAt w16.heap.size x (u8s y) := fun x y hx j v hj => by
    have hfr : Fr (· = f) w18 ((w18.setCell ⟨f, 0, none⟩ (.string (B h.name))).setCell ⟨f, 17, none⟩ (.slice (some ⟨w16.heap.size, o1, none⟩) h.extra.length cap1)) := ((Fr.refl (· = f) _).setCell (fun _ => rfl) _).setCell (fun _ => rfl) _
    rw [hfr.cell (Nat.lt_of_lt_of_le hlt17 HT18.out.2.2) (by omega)]; exact hx j v hj
  have v0 := conv_cells (cap := N) hx0
  have v2 := conv_cells (cap := cap2) (hff _ _ hx2)
  have c0 : w18.cell? ⟨f, 0, none⟩ = some (.string ⟨#[]⟩) := HT18.out.1.cell 0
  have z0 : w18.frozen? ⟨f, 0, none⟩ = false := HT18.out.1.frozen 0
  have c1 : w18.cell? ⟨f, 1, none⟩ = some (.string ⟨#[]⟩) := HT18.out.1.cell 1
  have z1 : w18.frozen? ⟨f, 1, none⟩ = false := HT18.out.1.frozen 1
  have c17 : w18.cell? ⟨f, 17, none⟩ = some (.slice none 0 0) := HT18.out.1.cell 17
  have z17 : w18.frozen? ⟨f, 17, none⟩ = false := HT18.out.1.frozen 17
  rw [← hcap1] at s1
  rw [← hcap2] at s2
  have HX1 := Lib.hid hx1
  have HBY : Hid (Bytes w18 w16.heap.size N) := Lib.hid (by have := Bytes.of_range hr18 (Nat.lt_of_lt_of_le hlt17 HT18.out.2.2); rwa [hTN] at this)
  have hcl1 : h.extra.length ≤ cap1 := by rw [hcap1, HN.out]; omega
  have HTE := Lib.hid hTe
  clear hx1 hx2 hx0 ho1 ho2 hr18 hTe hTN hff hcap1 hcap2 hNc s0
  go_upto_region 33 with fail

  have HT19 : Hid (Blk (((w18.setCell ⟨f, 0, none⟩ (.string (B h.name))).setCell ⟨f, 17, none⟩ (.slice (some ⟨w16.heap.size, o1, none⟩) h.extra.length cap1)).setCell ⟨f, 1, none⟩ (.string (B h.comment))) f (fileTexts h false (.int .u64 0) (.int .i64 0) (.pointer none) (.slice (some ⟨w16.heap.size, o1, none⟩) h.extra.length cap1) zr zipr at_) 80 ∧ RB R E (((w18.setCell ⟨f, 0, none⟩ (.string (B h.name))).setCell ⟨f, 17, none⟩ (.slice (some ⟨w16.heap.size, o1, none⟩) h.extra.length cap1)).setCell ⟨f, 1, none⟩ (.string (B h.comment))) tl ∧ Fr (fun b => b = f ∨ R.has b) w (((w18.setCell ⟨f, 0, none⟩ (.string (B h.name))).setCell ⟨f, 17, none⟩ (.slice (some ⟨w16.heap.size, o1, none⟩) h.extra.length cap1)).setCell ⟨f, 1, none⟩ (.string (B h.comment))) ∧ (((w18.setCell ⟨f, 0, none⟩ (.string (B h.name))).setCell ⟨f, 17, none⟩ (.slice (some ⟨w16.heap.size, o1, none⟩) h.extra.length cap1)).setCell ⟨f, 1, none⟩ (.string (B h.comment))).rangeAt w16.heap.size o1 (u8s h.extra) ∧ Bytes (((w18.setCell ⟨f, 0, none⟩ (.string (B h.name))).setCell ⟨f, 17, none⟩ (.slice (some ⟨w16.heap.size, o1, none⟩) h.extra.length cap1)).setCell ⟨f, 1, none⟩ (.string (B h.comment))) w16.heap.size N ∧ o1 + h.extra.length ≤ N ∧ h.extra.length ≤ cap1 ∧ w.heap.size ≤ w16.heap.size) := by
    obtain ⟨h1, h2, h3⟩ := HT18.out
    obtain ⟨k1, k2, k3⟩ := hw18.out
    have hfr : Fr (· = f) w18 (((w18.setCell ⟨f, 0, none⟩ (.string (B h.name))).setCell ⟨f, 17, none⟩ (.slice (some ⟨w16.heap.size, o1, none⟩) h.extra.length cap1)).setCell ⟨f, 1, none⟩ (.string (B h.comment))) := (((Fr.refl (· = f) _).setCell (fun _ => rfl) _).setCell (fun _ => rfl) _).setCell (fun _ => rfl) _
    refine Lib.hid ⟨((h1.set 0 _).set 17 _).set 1 _, k2.fr hfr (fun b hb e => HFR.out (e ▸ hb)), h2.trans2 hfr (fun _ h => h) (fun _ h => .inl h), fun j v hj => ?_, HBY.out.fr hfr (by omega), hoN, hcl1, hw16⟩
    rw [hfr.cell (Nat.lt_of_lt_of_le hlt17 h3) (by omega)]; exact HX1.out j v hj
  clear v0 v2 c0 z0 c1 z1 c17 z17 HT18 hw18 s1 s2 HX1 HTE hlt17 hszs hw16 HN hnN hcl1 HBY hoN
  generalize hW : (((w18.setCell ⟨f, 0, none⟩ (.string (B h.name))).setCell ⟨f, 17, none⟩ (.slice (some ⟨w16.heap.size, o1, none⟩) h.extra.length cap1)).setCell ⟨f, 1, none⟩ (.string (B h.comment))) = w19 at HT19 ⊢
  clear hW

  generalize w16.heap.size = d at HT19 ⊢
  have hE19 : Hid (Env w19 N0 E) := Lib.hid (HE.out.fr HT19.out.2.2.1 (by rintro b (e | e); omega; exact HR.out.low b e))
  have hg1 : 12 < w19.heap.size := Nat.lt_of_lt_of_le hE19.out.n1 hE19.out.le
  have hg2 : 13 < w19.heap.size := Nat.lt_of_lt_of_le hE19.out.n2 hE19.out.le
  have HD1 := Lib.hid (detect_any h.name w19 hE19.out.tabs hg1 hg2 (by omega))
  have c0 : w19.cell? ⟨f, 0, none⟩ = some (.string (B h.name)) := HT19.out.1.cell 0
  clear hg1 hg2
  go_wp2_with fail
  refine HD1.out.mono ?_
  rintro e w20 ⟨rfl, hb20⟩
  have hf20 : Fr (fun _ => False) w19 w20 := Fr.of_below hb20
  have hE20 : Hid (Env w20 N0 E) := Lib.hid (hE19.out.fr hf20 (fun _ h => h.elim))
  have hg1 : 12 < w20.heap.size := Nat.lt_of_lt_of_le hE20.out.n1 hE20.out.le
  have hg2 : 13 < w20.heap.size := Nat.lt_of_lt_of_le hE20.out.n2 hE20.out.le
  have HD2 := Lib.hid (detect_any h.comment w20 hE20.out.tabs hg1 hg2 (by omega))
  have c1 : w20.cell? ⟨f, 1, none⟩ = some (.string (B h.comment)) := (hf20.blk HT19.out.1 id).cell 1
  have HF20 := Lib.hid hf20
  clear hg1 hg2 HD1 c0 hb20 hf20
  go_wp2_with fail
  refine HD2.out.mono ?_
  rintro e w21 ⟨rfl, hb21⟩
  have HF21 : Hid (Fr (fun _ => False) w19 w21) := Lib.hid (HF20.out.trans2 (Fr.of_below (S := fun _ => False) hb21) (fun _ h => h) (fun _ h => h))
  clear HD2 c1 HF20 hb21 hE20 hE19
  have z2 : w21.frozen? ⟨f, 2, none⟩ = false := (HF21.out.blk HT19.out.1 id).frozen 2
  have c2 : w21.cell? ⟨f, 2, none⟩ = some (.bool false) := (HF21.out.blk HT19.out.1 id).cell 2
  have c5 : w21.cell? ⟨f, 5, none⟩ = some (.int .u16 h.flags) := (HF21.out.blk HT19.out.1 id).cell 5
  have hnon : Hid (nonU h = nonOf (detect h.name).1 (detect h.name).2 (detect h.comment).1 (detect h.comment).2 (bits .and .u16 h.flags 2048 == 0)) := Lib.hid rfl
  generalize (detect h.name).1 = a1 at hnon ⊢
  generalize (detect h.name).2 = a2 at hnon ⊢
  generalize (detect h.comment).1 = b1 at hnon ⊢
  generalize (detect h.comment).2 = b2 at hnon ⊢
  go_upto_block 0 with fail
  refine wp_cut (Rl404 (fun wx => wx = w21.setCell ⟨f, 2, none⟩ (.bool (nonU h))) f) ?rest ?first
  case first =>
    intro J K hJ hK
    as_aux_lemma =>
      cases a1
      · go_wp2
        exact Met.intro (hJ _ _ ⟨rfl, rfl, rfl, by rw [hnon.out]; rfl⟩)
      · cases b1
        · go_wp2
          exact Met.intro (hJ _ _ ⟨rfl, rfl, rfl, by rw [hnon.out]; rfl⟩)
        · cases a2
          · cases b2
            · go_wp2
              exact Met.intro (hJ _ _ ⟨rfl, rfl, rfl, by rw [hnon.out]; rfl⟩)
            · go_wp2
              exact Met.intro (hJ _ _ ⟨rfl, rfl, rfl, by rw [hnon.out]; rfl⟩)
          · go_wp2
            exact Met.intro (hJ _ _ ⟨rfl, rfl, rfl, by rw [hnon.out]; rfl⟩)
  case rest =>
    intro a' wx hR
    obtain ⟨hr1, hr2, hr3, rfl⟩ := hR
    obtain ⟨u, rfl, -⟩ := frame404 a' hr1 hr2
    have hu0 : u 0 = .pointer (some ⟨f, 0, none⟩) := hr3
    clear hr1 hr2 hr3
    rw [hu0]
    have hf21 : f < w21.heap.size := Nat.lt_of_lt_of_le HT19.out.1.lt HF21.out.size
    have c17 : w21.cell? ⟨f, 17, none⟩ = some (.slice (some ⟨d, o1, none⟩) h.extra.length cap1) := (HF21.out.blk HT19.out.1 id).cell 17
    have HW : Hid (LWat R E N0 w ((w21.setCell ⟨f, 2, none⟩ (.bool (nonU h))).alloc (.cells #[.int .u64 0, .int .i64 0, .pointer none] 74)) f d N o1 cap1 w21.heap.size (fileTexts h (nonU h) (.int .u64 0) (.int .i64 0) (.pointer none) (.slice (some ⟨d, o1, none⟩) h.extra.length cap1) zr zipr at_) tl h.extra) := by
      obtain ⟨h1, h2, h3, h4, h5, h6, h7, h8⟩ := HT19.out
      have hfa : Fr (· = f) w19 ((w21.setCell ⟨f, 2, none⟩ (.bool (nonU h))).alloc (.cells #[.int .u64 0, .int .i64 0, .pointer none] 74)) := ((HF21.out.mono (T := (· = f)) (fun _ _ h => h.elim)).setCell (fun _ => rfl) _).alloc _
      have hsz : (w21.setCell ⟨f, 2, none⟩ (.bool (nonU h))).heap.size = w21.heap.size := by simp [World.setCell]
      have hdl : d < w19.heap.size := h5.1
      have hdf : d ≠ f := by omega
      refine Lib.hid ⟨((HF21.out.blk h1 id).set 2 _).alloc _, h2.fr hfa (fun b hb e => HFR.out (e ▸ hb)), h3.trans2 hfa (fun _ h => h) (fun _ h => .inl h), HE.out.fr (h3.trans2 hfa (fun _ h => h) (fun _ h => .inl h)) (by rintro b (e | e); omega; exact HR.out.low b e), fun j v hj => ?_, h5.fr hfa hdf, h6, h7, h8, Blk.new' _ _ hsz.symm, by rw [World.size_alloc, hsz], by have := HF21.out.size; omega, by have := HF21.out.size; have := h3.size; omega⟩
      rw [hfa.cell hdl hdf]; exact h4 j v hj
    clear HT19 HF21 z2 c2 c5 hnon hw1
    go_upto_block 1 with fail
    go_step3
    go_upto_block 1 with fail
    generalize hWL : (w21.setCell ⟨f, 2, none⟩ (.bool (nonU h))).alloc (.cells #[.int .u64 0, .int .i64 0, .pointer none] 74) = wL at HW ⊢
    clear hWL c17 hf21
    generalize w21.heap.size = tm at *
    have HZ := Lib.hid HW.out.size
    have hs0 : ((h.size : Int) == 4294967295) = false := by rw [beq_eq_false_iff_ne]; have := HK.out.size; omega
    have hs1 : ((h.packed : Int) == 4294967295) = false := by rw [beq_eq_false_iff_ne]; have := HK.out.packed; omega
    have hs2 : ((at_ : Int) == 4294967295) = false := by rw [beq_eq_false_iff_ne]; omega
    refine wp_cut (Rl2 f tm (fun wx => TimSt wL tm wx)) ?rest2 ?first2
    case first2 =>
      intro J2 K2 hJ2 hK2
      clear HH HE HR HLT HFf HFR HL HB hnl hcl HK hcs hB0 hz1 st hN hNw hat0 hat1 hu0
      go_wp2_with fail
      refine wp_loop_ghost_k (LpI wL d N tm f) h.extra.length ?start ?round
      case start =>
        obtain ⟨h1, h2, h3, h4, h5, h6, h7, h8, h9, h10, h11, h12, h13⟩ := HW.out
        exact ⟨rfl, rfl, rfl, rfl, tm + 1, rfl, ⟨o1, cap1, Blk.new' _ _ h11.symm, h8, h7⟩, by omega, ⟨(Fr.refl (· = tm) _).alloc _, 0, 0, none, h10.alloc _⟩⟩
      case round =>
        intro k a wr hI J3 K3 hJ3 hK3
        obtain ⟨q1, q2, q3, q4, ex, q5, hrb, hexn, hts⟩ := hI
        obtain ⟨u, rfl, -⟩ := frame404 a q1 q2
        have hu0 : u 0 = .pointer (some ⟨f, 0, none⟩) := q3
        have hu20 : u 20 = .pointer (some ⟨tm, 0, none⟩) := q4
        have hu21 : u 21 = .pointer (some ⟨ex, 0, none⟩) := q5
        clear q1 q2 q3 q4 q5
        rw [hu0, hu20, hu21]
        clear hu0 hu20 hu21
        have HTS := Lib.hid hts
        have hed : Hid (ex ≠ d ∧ ex ≠ tm ∧ ex ≠ f ∧ d ≠ tm ∧ f ≠ tm) := Lib.hid (by have := HW.out.dt; have := HW.out.tn; have := HZ.out; refine ⟨?_, ?_, ?_, ?_, ?_⟩ <;> omega)
        have hby : Hid (Bytes wr d N) := Lib.hid (HW.out.bytes.fr hts.1 hed.out.2.2.2.1)
        obtain ⟨o, cap, hv, hcap, ho⟩ := hrb
        have c21 : wr.cell? ⟨ex, 0, none⟩ = some (.slice (some ⟨d, o, none⟩) k cap) := hv.cell 0
        have HRB : Hid (RbOk wr ex d N k) := Lib.hid ⟨o, cap, hv, hcap, ho⟩
        clear hv hts
        by_cases h4 : 4 ≤ k
        · have h4' : (4 : Int) ≤ k := by omega
          go_upto_block 2 with fail
          refine wp_cut (fun a w => ∃ k', k' < k ∧ LpI wL d N tm f k' a w) ?rest3 ?first3
          case rest3 =>
            intro a wx hR
            obtain ⟨k', hk', q1, q2, q3, q4, ex', q5, hrb', hexn', hts'⟩ := hR
            obtain ⟨u, rfl, -⟩ := frame404 a q1 q2
            have hu0 : u 0 = .pointer (some ⟨f, 0, none⟩) := q3
            have hu20 : u 20 = .pointer (some ⟨tm, 0, none⟩) := q4
            have hu21 : u 21 = .pointer (some ⟨ex', 0, none⟩) := q5
            clear q1 q2 q3 q4 q5
            rw [hu0, hu20, hu21]
            obtain ⟨o', cap', hv', hcap', ho'⟩ := hrb'
            have c21 : wx.cell? ⟨ex', 0, none⟩ = some (.slice (some ⟨d, o', none⟩) k' cap') := hv'.cell 0
            have HTS' := Lib.hid hts'
            clear hv' hts'
            go_wp2
            refine Handed.intro k' hk' (hJ3 _ _ _ ⟨rfl, rfl, rfl, rfl, wx.heap.size, rfl, ⟨o', cap', Blk.new _ _ _, hcap', ho'⟩, HTS'.out.1.size, HTS'.out.1.alloc _, ?_⟩)
            obtain ⟨_, x1, x2, x3, hx⟩ := HTS'.out
            exact ⟨x1, x2, x3, hx.alloc _⟩
          case first3 =>
            intro J4 K4 hJ4 hK4
            clear c21
            go_wp2_with fail
            refine (rb16_ok ex d N k wr HRB.out hby.out (by omega)).mono ?_
            rintro e w1 ⟨⟨n1, hn1, rfl⟩, hrb1, hf1⟩
            have HRB1 := Lib.hid hrb1
            have hby1 : Hid (Bytes w1 d N) := Lib.hid (hby.out.fr hf1 (fun e => hed.out.1 e.symm))
            have HF1 := Lib.hid hf1
            clear hrb1 hf1
            go_wp2_with fail
            refine (rb16_ok ex d N (k - 2) w1 HRB1.out hby1.out (by omega)).mono ?_
            rintro e w2 ⟨⟨n2, hn2, rfl⟩, hrb2, hf2⟩
            have hby2 : Hid (Bytes w2 d N) := Lib.hid (hby1.out.fr hf2 (fun e => hed.out.1 e.symm))
            have HF2 : Hid (Fr (· = ex) wr w2) := Lib.hid (HF1.out.trans hf2 (fun _ _ h => h))
            obtain ⟨o2, cap2, hv2, hcap2, ho2⟩ := hrb2
            have c2 : w2.cell? ⟨ex, 0, none⟩ = some (.slice (some ⟨d, o2, none⟩) (k - 2 - 2) cap2) := hv2.cell 0
            have HRB2 : Hid (RbOk w2 ex d N (k - 2 - 2)) := Lib.hid ⟨o2, cap2, hv2, hcap2, ho2⟩
            have TS2 : Hid (TimSt wL tm w2) := by
              obtain ⟨t1, x1, x2, x3, hx⟩ := HTS.out
              exact Lib.hid ⟨t1.trans HF2.out (fun i hi e => absurd hi (by omega)), x1, x2, x3, HF2.out.blk hx (fun e => hed.out.2.1 e.symm)⟩
            clear hv2 hf2 HF1 HRB1 hby1 HRB hby
            by_cases hsz : k - 2 - 2 < n2
            · have hsz' : ((k - 2 - 2 : Nat) : Int) < n2 := by omega
              go_wp2
              exact Met.intro (hJ2 _ _ ⟨rfl, rfl, rfl, rfl, TS2.out⟩)
            · have hsz' : ¬ ((k - 2 - 2 : Nat) : Int) < n2 := by omega
              go_wp2_with fail
              refine (sub_ok ex d N (k - 2 - 2) n2 w2 HRB2.out (by omega) (by omega)).mono ?_
              rintro e w3 ⟨⟨v, rfl, hv3⟩, hrb3, hf3⟩
              obtain ⟨o3, cap3, rfl, hcap3, ho3⟩ := hv3
              have hby3 : Hid (Bytes w3 d N) := Lib.hid (hby2.out.fr hf3 (fun e => hed.out.1 e.symm))
              have TS3 : Hid (TimSt wL tm w3) := by
                obtain ⟨t1, x1, x2, x3, hx⟩ := TS2.out
                exact Lib.hid ⟨t1.trans hf3 (fun i hi e => absurd hi (by omega)), x1, x2, x3, hf3.blk hx (fun e => hed.out.2.1 e.symm)⟩
              have HFILE : Hid (Blk w3 f (fileTexts h (nonU h) (.int .u64 0) (.int .i64 0) (.pointer none) (.slice (some ⟨d, o1, none⟩) h.extra.length cap1) zr zipr at_) 80) := Lib.hid (TS3.out.1.blk HW.out.file hed.out.2.2.2.2)
              have hwex : wL.heap.size ≤ w3.heap.size := TS3.out.1.size
              have hdw : d < w3.heap.size := hby3.out.1
              have hexlt : ex < w3.heap.size := by obtain ⟨_, _, hb, _⟩ := hrb3; exact hb.lt
              have HRB3 := Lib.hid hrb3
              have FIN : Hid (∀ w', Fr (· = tm) w3 w' → (∃ a b l, IsTim w' tm a b l) → ∀ tmps, tmps.size = 404 → tmps.getD 0 undef = .pointer (some ⟨f, 0, none⟩) → tmps.getD 20 undef = .pointer (some ⟨tm, 0, none⟩) → tmps.getD 21 undef = .pointer (some ⟨ex, 0, none⟩) → Met J4 ⟨tmps, []⟩ w') := Lib.hid fun w' hf ht tmps t1 t2 t3 t4 =>
                Met.intro (hJ4 _ _ ⟨k - 2 - 2 - n2, by omega, t1, rfl, t2, t3, ex, t4, HRB3.out.fr hf hed.out.2.1, hexn, TS3.out.1.trans2 hf (fun _ h => h) (fun _ h => h), ht⟩)
              have hn2b : n2 ≤ 65535 := by omega
              clear hrb3 hf3 hby2 c2 HF2 HRB2 TS2 hsz hsz' h4 h4'
              have e1 : n1 = 1 ∨ n1 = 10 ∨ n1 = 13 ∨ n1 = 22613 ∨ n1 = 21589 ∨ Hid (n1 ≠ 1 ∧ n1 ≠ 10 ∧ n1 ≠ 13 ∧ n1 ≠ 22613 ∧ n1 ≠ 21589) := by
                by_cases z1 : n1 = 1; exact .inl z1
                by_cases z2 : n1 = 10; exact .inr (.inl z2)
                by_cases z3 : n1 = 13; exact .inr (.inr (.inl z3))
                by_cases z4 : n1 = 22613; exact .inr (.inr (.inr (.inl z4)))
                by_cases z5 : n1 = 21589; exact .inr (.inr (.inr (.inr (.inl z5))))
                exact .inr (.inr (.inr (.inr (.inr (Lib.hid ⟨z1, z2, z3, z4, z5⟩)))))
              have TIM3 : Hid (∃ a b l, IsTim w3 tm a b l) := Lib.hid TS3.out.2
              rcases e1 with rfl | rfl | rfl | rfl | rfl | e1
              · have c13 : w3.cell? ⟨f, 13, none⟩ = some (.int .u32 h.packed) := HFILE.out.cell 13
                have c14 : w3.cell? ⟨f, 14, none⟩ = some (.int .u32 h.size) := HFILE.out.cell 14
                have cc21 : w3.cell? ⟨f, 21, none⟩ = some (.int .i64 at_) := HFILE.out.cell 21
                have hfw3 : f < w3.heap.size := HFILE.out.lt
                go_wp2
                obtain ⟨x1, x2, x3, hx⟩ := TIM3.out
                exact FIN.out _ ((Fr.refl _ w3).alloc _) ⟨x1, x2, x3, hx.alloc _⟩ _ rfl rfl rfl rfl
              · as_aux_lemma =>
                by_cases h4n : n2 < 4
                · have h4' : (n2 : Int) < 4 := by omega
                  go_wp2
                  obtain ⟨x1, x2, x3, hx⟩ := TIM3.out
                  exact FIN.out _ ((Fr.refl _ w3).alloc _) ⟨x1, x2, x3, hx.alloc _⟩ _ rfl rfl rfl rfl
                · have h4' : ¬ (n2 : Int) < 4 := by omega
                  have hfb : RbOk (w3.alloc (.cells #[.slice (some ⟨d, o3, none⟩) n2 cap3] 194)) w3.heap.size d N n2 := ⟨o3, cap3, Blk.new _ _ _, hcap3, ho3⟩
                  have hfa : Fr (fun _ => False) w3 (w3.alloc (.cells #[.slice (some ⟨d, o3, none⟩) n2 cap3] 194)) := (Fr.refl _ w3).alloc _
                  go_wp2_with fail
                  refine (rb32_ok w3.heap.size d N n2 _ hfb (hby3.out.fr hfa id) (by omega)).mono ?_
                  rintro e w4 ⟨⟨m1, hm1, rfl⟩, hrb4, hf4⟩
                  have hf4 : Fr (fun _ => False) w3 w4 := hfa.trans hf4 (fun i hi e => absurd hi (by omega))
                  have HRB4 := Lib.hid hrb4
                  have HF4 := Lib.hid hf4
                  clear hfb hfa hrb4 hf4 h4' h4n HFILE
                  go_wp2_with fail
                  refine wp_loop_ghost_k (LpN w3 d N tm f ex w3.heap.size) (n2 - 4) ?start4 ?round4
                  case start4 =>
                    obtain ⟨x1, x2, x3, hx⟩ := TIM3.out
                    exact ⟨rfl, rfl, rfl, rfl, rfl, rfl, HRB4.out, HF4.out.mono (fun _ _ h => h.elim), x1, x2, x3, HF4.out.blk hx id⟩
                  case round4 =>
                    intro k5 a wr5 hI J5 K5 hJ5 hK5
                    obtain ⟨q1, q2, q3, q4, q5, q6, hrb5, hfr5, htim5⟩ := hI
                    obtain ⟨u, rfl, -⟩ := frame404 a q1 q2
                    have hu0 : u 0 = .pointer (some ⟨f, 0, none⟩) := q3
                    have hu20 : u 20 = .pointer (some ⟨tm, 0, none⟩) := q4
                    have hu21 : u 21 = .pointer (some ⟨ex, 0, none⟩) := q5
                    have hu24 : u 24 = .pointer (some ⟨w3.heap.size, 0, none⟩) := q6
                    clear q1 q2 q3 q4 q5 q6
                    rw [hu0, hu20, hu21, hu24]
                    clear hu0 hu20 hu21 hu24
                    obtain ⟨o5, cap5, hv5, hcap5, ho5⟩ := hrb5
                    have c24 : wr5.cell? ⟨w3.heap.size, 0, none⟩ = some (.slice (some ⟨d, o5, none⟩) k5 cap5) := hv5.cell 0
                    have HRB5 : Hid (RbOk wr5 w3.heap.size d N k5) := Lib.hid ⟨o5, cap5, hv5, hcap5, ho5⟩
                    have HF5 := Lib.hid hfr5
                    have HT5 := Lib.hid htim5
                    have hz35 : w3.heap.size < wr5.heap.size := hv5.lt
                    have hfbt : w3.heap.size ≠ tm := by have := HZ.out; omega
                    have HFBT := Lib.hid hfbt
                    clear hv5 hfr5 htim5 hfbt
                    by_cases h4n : 4 ≤ k5
                    · have h4' : (4 : Int) ≤ k5 := by omega
                      go_wp2_with fail
                      refine (rb16_ok w3.heap.size d N k5 wr5 HRB5.out (hby3.out.fr HF5.out hed.out.2.2.2.1) (by omega)).mono ?_
                      rintro e w6 ⟨⟨p1, hp1, rfl⟩, hrb6, hf6⟩
                      have hf6' : Fr (· = tm) w3 w6 := HF5.out.trans hf6 (fun i hi e => absurd hi (by omega))
                      have HF6 := Lib.hid hf6'
                      have HT6 : Hid (∃ a b l, IsTim w6 tm a b l) := Lib.hid (by obtain ⟨x1, x2, x3, hx⟩ := HT5.out; exact ⟨x1, x2, x3, hf6.blk hx (fun e => HFBT.out e.symm)⟩)
                      have HRB6 := Lib.hid hrb6
                      clear hrb6 hf6 hf6' HF5 HT5 HRB5 c24
                      go_wp2_with fail
                      refine (rb16_ok w3.heap.size d N (k5 - 2) w6 HRB6.out (hby3.out.fr HF6.out hed.out.2.2.2.1) (by omega)).mono ?_
                      rintro e w7 ⟨⟨p2, hp2, rfl⟩, hrb7, hf7⟩
                      have hf7' : Fr (· = tm) w3 w7 := HF6.out.trans hf7 (fun i hi e => absurd hi (by omega))
                      have HF7 := Lib.hid hf7'
                      have HT7 : Hid (∃ a b l, IsTim w7 tm a b l) := Lib.hid (by obtain ⟨x1, x2, x3, hx⟩ := HT6.out; exact ⟨x1, x2, x3, hf7.blk hx (fun e => HFBT.out e.symm)⟩)
                      obtain ⟨o7, cap7, hv7, hcap7, ho7⟩ := hrb7
                      have c24 : w7.cell? ⟨w3.heap.size, 0, none⟩ = some (.slice (some ⟨d, o7, none⟩) (k5 - 2 - 2) cap7) := hv7.cell 0
                      have HRB7 : Hid (RbOk w7 w3.heap.size d N (k5 - 2 - 2)) := Lib.hid ⟨o7, cap7, hv7, hcap7, ho7⟩
                      clear hv7 hf7 hf7' HF6 HT6 HRB6
                      by_cases hsz : k5 - 2 - 2 < p2
                      · have hsz' : ((k5 - 2 - 2 : Nat) : Int) < p2 := by omega
                        go_wp2
                        exact FIN.out _ HF7.out HT7.out _ rfl rfl rfl rfl
                      · have hsz' : ¬ ((k5 - 2 - 2 : Nat) : Int) < p2 := by omega
                        go_wp2_with fail
                        refine (sub_ok w3.heap.size d N (k5 - 2 - 2) p2 w7 HRB7.out (by omega) (by omega)).mono ?_
                        rintro e w8 ⟨⟨v, rfl, hv8⟩, hrb8, hf8⟩
                        obtain ⟨o8, cap8, rfl, hcap8, ho8⟩ := hv8
                        have hf8' : Fr (· = tm) w3 w8 := HF7.out.trans hf8 (fun i hi e => absurd hi (by omega))
                        have HF8 := Lib.hid hf8'
                        have HT8 : Hid (∃ a b l, IsTim w8 tm a b l) := Lib.hid (by obtain ⟨x1, x2, x3, hx⟩ := HT7.out; exact ⟨x1, x2, x3, hf8.blk hx (fun e => HFBT.out e.symm)⟩)
                        have HRB8 := Lib.hid hrb8
                        have hz38 : w3.heap.size < w8.heap.size := by obtain ⟨_, _, hb, _⟩ := hrb8; exact hb.lt
                        have hez : ex < w8.heap.size ∧ tm < w8.heap.size := by have := HF8.out.size; have := HZ.out; omega
                        have NEXT : Hid (∀ w', Fr (· = tm) w8 w' → (∃ a b l, IsTim w' tm a b l) → ∀ tmps, tmps.size = 404 → tmps.getD 0 undef = .pointer (some ⟨f, 0, none⟩) → tmps.getD 20 undef = .pointer (some ⟨tm, 0, none⟩) → tmps.getD 21 undef = .pointer (some ⟨ex, 0, none⟩) → tmps.getD 24 undef = .pointer (some ⟨w3.heap.size, 0, none⟩) → Handed J5 k5 ⟨tmps, []⟩ w') := Lib.hid fun w' hf ht tmps t1 t2 t3 t4 t5 =>
                          Handed.intro (k5 - 2 - 2 - p2) (by omega) (hJ5 _ _ _ ⟨t1, rfl, t2, t3, t4, t5, HRB8.out.fr hf HFBT.out, HF8.out.trans2 hf (fun _ h => h) (fun _ h => h), ht⟩)
                        clear hrb8 hf8 hf8' c24 HF7 HT7 HRB7 hsz hsz' h4n h4'
                        by_cases hp : p1 = 1 ∧ p2 = 24
                        · obtain ⟨rfl, rfl⟩ := hp
                          go_wp2_with fail
                          refine (rb64_ok w8.heap.size d N 24 _ ⟨o8, cap8, Blk.new _ _ _, hcap8, ho8⟩ ((hby3.out.fr HF8.out hed.out.2.2.2.1).fr ((Fr.refl (fun _ => False) w8).alloc _) id) (by omega)).mono ?_
                          rintro e w9 ⟨⟨ts, rfl⟩, -, hf9⟩
                          have hf9' : Fr (fun _ => False) w8 w9 := ((Fr.refl (fun _ => False) w8).alloc _).trans hf9 (fun i hi e => absurd hi (by omega))
                          have HF9 := Lib.hid hf9'
                          clear hf9 hf9'
                          go_wp2_with fail
                          refine (utc_any _).mono ?_
                          rintro e w10 ⟨rfl, hl10, hb10⟩
                          have HF10 : Hid (Fr (fun _ => False) w8 w10) := Lib.hid (HF9.out.trans2 (Fr.of_below (S := fun _ => False) hb10) (fun _ h => h) (fun _ h => h))
                          have HL10 := Lib.hid hl10
                          clear hl10 hb10 HF9
                          go_wp2_with fail
                          refine (date_any _ _ _ _ _ _ _ _ HL10.out).mono ?_
                          rintro e w11 ⟨⟨y1, y2, y3, rfl⟩, hb11⟩
                          have HF11 : Hid (Fr (fun _ => False) w8 w11) := Lib.hid (HF10.out.trans2 (Fr.of_below (S := fun _ => False) hb11) (fun _ h => h) (fun _ h => h))
                          clear hb11 HF10 HL10
                          go_wp2_with (refine wpList_alloc_store 74 _ _ [.int .u64 y1, .int .i64 y2, .pointer y3] rfl rfl rfl rfl rfl rfl (by kernel_rfl) rfl ?_)
                          refine (tUnix_any _ _ _ _).mono ?_
                          rintro e w12 ⟨⟨y4, rfl⟩, hb12⟩
                          have HF12 : Hid (Fr (fun _ => False) w8 w12) := Lib.hid ((HF11.out.alloc _).trans2 (Fr.of_below (S := fun _ => False) hb12) (fun _ h => h) (fun _ h => h))
                          clear hb12 HF11
                          go_wp2_with fail
                          refine (tunix_any _ _ _).mono ?_
                          rintro e w13 ⟨⟨wall, ext, rfl⟩, hb13⟩
                          have hf13 : Fr (fun _ => False) w8 w13 := HF12.out.trans2 (Fr.of_below (S := fun _ => False) hb13) (fun _ h => h) (fun _ h => h)
                          obtain ⟨x1, x2, x3, hx⟩ := HT8.out
                          have T13 := Lib.hid (hf13.blk hx id)
                          have HF13 := Lib.hid hf13
                          clear hb13 hf13 HF12 hx
                          go_wp2_with (refine wpList_store_blk rfl 74 _ _ rfl tm _ #[.int .u64 wall, .int .i64 ext, .pointer none] 74 T13.out rfl rfl (by kernel_rfl) rfl rfl ?_; intro hst hfr; have HST := Lib.hid hst; have HFS := Lib.hid hfr; clear hst hfr)
                          exact NEXT.out _ (HF13.out.trans2 HFS.out (fun _ h => h.elim) (fun _ h => h)) ⟨_, _, _, HST.out⟩ _ rfl rfl rfl rfl rfl
                        · have hpp : ((p1 : Int) != 1) = true ∨ (((p1 : Int) != 1) = false ∧ ((p2 : Int) != 24) = true) := by simp only [bne_iff_ne, ne_eq, bne_eq_false_iff_eq]; omega
                          clear hp
                          rcases hpp with hpp | ⟨hpp, hpp'⟩
                          all_goals (
                            go_wp2
                            obtain ⟨x1, x2, x3, hx⟩ := HT8.out
                            exact NEXT.out _ ((Fr.refl _ w8).alloc _) ⟨x1, x2, x3, hx.alloc _⟩ _ rfl rfl rfl rfl rfl)
                    · have h4' : ¬ (4 : Int) ≤ k5 := by omega
                      go_wp2
                      exact FIN.out _ HF5.out HT5.out _ rfl rfl rfl rfl
              · as_aux_lemma =>
                by_cases h8 : n2 < 8
                · have h8' : (n2 : Int) < 8 := by omega
                  go_wp2
                  obtain ⟨x1, x2, x3, hx⟩ := TIM3.out
                  exact FIN.out _ ((Fr.refl _ w3).alloc _) ⟨x1, x2, x3, hx.alloc _⟩ _ rfl rfl rfl rfl
                · have h8' : ¬ (n2 : Int) < 8 := by omega
                  have hfb : RbOk (w3.alloc (.cells #[.slice (some ⟨d, o3, none⟩) n2 cap3] 194)) w3.heap.size d N n2 := ⟨o3, cap3, Blk.new _ _ _, hcap3, ho3⟩
                  have hfa : Fr (fun _ => False) w3 (w3.alloc (.cells #[.slice (some ⟨d, o3, none⟩) n2 cap3] 194)) := (Fr.refl _ w3).alloc _
                  go_wp2_with fail
                  refine (rb32_ok w3.heap.size d N n2 _ hfb (hby3.out.fr hfa id) (by omega)).mono ?_
                  rintro e w4 ⟨⟨m1, hm1, rfl⟩, hrb4, hf4⟩
                  have hf4 : Fr (fun _ => False) w3 w4 := hfa.trans hf4 (fun i hi e => absurd hi (by omega))
                  have HRB4 := Lib.hid hrb4
                  have HF4 := Lib.hid hf4
                  clear hfb hfa hrb4 hf4
                  go_wp2_with fail
                  refine (rb32_ok w3.heap.size d N (n2 - 4) w4 HRB4.out (hby3.out.fr HF4.out id) (by omega)).mono ?_
                  rintro e w5 ⟨⟨m2, hm2, rfl⟩, -, hf5⟩
                  have hf5 : Fr (fun _ => False) w3 w5 := HF4.out.trans hf5 (fun i hi e => absurd hi (by omega))
                  go_wp2_with fail
                  refine (tunix_any _ _ _).mono ?_
                  rintro e w6 ⟨⟨wall, ext, rfl⟩, hb6⟩
                  have hf6 : Fr (fun _ => False) w3 w6 := hf5.trans2 (Fr.of_below (S := fun _ => False) hb6) (fun _ h => h) (fun _ h => h)
                  obtain ⟨x1, x2, x3, hx⟩ := TIM3.out
                  have T6 := Lib.hid (hf6.blk hx id)
                  have HF6 := Lib.hid hf6
                  clear hb6 hf6 hf5 hx
                  go_wp2_with (refine wpList_store_blk rfl 74 _ _ rfl tm _ #[.int .u64 wall, .int .i64 ext, .pointer none] 74 T6.out rfl rfl (by kernel_rfl) rfl rfl ?_; intro hst hfr; have HST := Lib.hid hst; have HFS := Lib.hid hfr; clear hst hfr)
                  exact FIN.out _ (HF6.out.trans2 HFS.out (fun _ h => h.elim) (fun _ h => h)) ⟨_, _, _, HST.out⟩ _ rfl rfl rfl rfl
              · as_aux_lemma =>
                by_cases h8 : n2 < 8
                · have h8' : (n2 : Int) < 8 := by omega
                  go_wp2
                  obtain ⟨x1, x2, x3, hx⟩ := TIM3.out
                  exact FIN.out _ ((Fr.refl _ w3).alloc _) ⟨x1, x2, x3, hx.alloc _⟩ _ rfl rfl rfl rfl
                · have h8' : ¬ (n2 : Int) < 8 := by omega
                  have hfb : RbOk (w3.alloc (.cells #[.slice (some ⟨d, o3, none⟩) n2 cap3] 194)) w3.heap.size d N n2 := ⟨o3, cap3, Blk.new _ _ _, hcap3, ho3⟩
                  have hfa : Fr (fun _ => False) w3 (w3.alloc (.cells #[.slice (some ⟨d, o3, none⟩) n2 cap3] 194)) := (Fr.refl _ w3).alloc _
                  go_wp2_with fail
                  refine (rb32_ok w3.heap.size d N n2 _ hfb (hby3.out.fr hfa id) (by omega)).mono ?_
                  rintro e w4 ⟨⟨m1, hm1, rfl⟩, hrb4, hf4⟩
                  have hf4 : Fr (fun _ => False) w3 w4 := hfa.trans hf4 (fun i hi e => absurd hi (by omega))
                  have HRB4 := Lib.hid hrb4
                  have HF4 := Lib.hid hf4
                  clear hfb hfa hrb4 hf4
                  go_wp2_with fail
                  refine (rb32_ok w3.heap.size d N (n2 - 4) w4 HRB4.out (hby3.out.fr HF4.out id) (by omega)).mono ?_
                  rintro e w5 ⟨⟨m2, hm2, rfl⟩, -, hf5⟩
                  have hf5 : Fr (fun _ => False) w3 w5 := HF4.out.trans hf5 (fun i hi e => absurd hi (by omega))
                  go_wp2_with fail
                  refine (tunix_any _ _ _).mono ?_
                  rintro e w6 ⟨⟨wall, ext, rfl⟩, hb6⟩
                  have hf6 : Fr (fun _ => False) w3 w6 := hf5.trans2 (Fr.of_below (S := fun _ => False) hb6) (fun _ h => h) (fun _ h => h)
                  obtain ⟨x1, x2, x3, hx⟩ := TIM3.out
                  have T6 := Lib.hid (hf6.blk hx id)
                  have HF6 := Lib.hid hf6
                  clear hb6 hf6 hf5 hx
                  go_wp2_with (refine wpList_store_blk rfl 74 _ _ rfl tm _ #[.int .u64 wall, .int .i64 ext, .pointer none] 74 T6.out rfl rfl (by kernel_rfl) rfl rfl ?_; intro hst hfr; have HST := Lib.hid hst; have HFS := Lib.hid hfr; clear hst hfr)
                  exact FIN.out _ (HF6.out.trans2 HFS.out (fun _ h => h.elim) (fun _ h => h)) ⟨_, _, _, HST.out⟩ _ rfl rfl rfl rfl
              · as_aux_lemma =>
                by_cases h5 : n2 < 5
                · have h5' : (n2 : Int) < 5 := by omega
                  go_wp2
                  obtain ⟨x1, x2, x3, hx⟩ := TIM3.out
                  exact FIN.out _ ((Fr.refl _ w3).alloc _) ⟨x1, x2, x3, hx.alloc _⟩ _ rfl rfl rfl rfl
                · have h5' : ¬ (n2 : Int) < 5 := by omega
                  have hfb : RbOk (w3.alloc (.cells #[.slice (some ⟨d, o3, none⟩) n2 cap3] 194)) w3.heap.size d N n2 := ⟨o3, cap3, Blk.new _ _ _, hcap3, ho3⟩
                  have hfa : Fr (fun _ => False) w3 (w3.alloc (.cells #[.slice (some ⟨d, o3, none⟩) n2 cap3] 194)) := (Fr.refl _ w3).alloc _
                  go_wp2_with fail
                  refine (rb8_ok w3.heap.size d N n2 _ hfb (hby3.out.fr hfa id) (by omega)).mono ?_
                  rintro e w4 ⟨⟨m1, rfl⟩, hrb4, hf4⟩
                  have hf4 : Fr (fun _ => False) w3 w4 := hfa.trans hf4 (fun i hi e => absurd hi (by omega))
                  have HRB4 := Lib.hid hrb4
                  have HF4 := Lib.hid hf4
                  clear hfb hfa hrb4 hf4
                  cases hbit : (bits .and .u8 (m1.toNat : Int) 1 == 0)
                  · go_wp2_with fail
                    refine (rb32_ok w3.heap.size d N (n2 - 1) w4 HRB4.out (hby3.out.fr HF4.out id) (by omega)).mono ?_
                    rintro e w5 ⟨⟨m2, hm2, rfl⟩, -, hf5⟩
                    have hf5 : Fr (fun _ => False) w3 w5 := HF4.out.trans hf5 (fun i hi e => absurd hi (by omega))
                    go_wp2_with fail
                    refine (tunix_any _ _ _).mono ?_
                    rintro e w6 ⟨⟨wall, ext, rfl⟩, hb6⟩
                    have hf6 : Fr (fun _ => False) w3 w6 := hf5.trans2 (Fr.of_below (S := fun _ => False) hb6) (fun _ h => h) (fun _ h => h)
                    obtain ⟨x1, x2, x3, hx⟩ := TIM3.out
                    have T6 := Lib.hid (hf6.blk hx id)
                    have HF6 := Lib.hid hf6
                    clear hb6 hf6 hf5 hx
                    go_wp2_with (refine wpList_store_blk rfl 74 _ _ rfl tm _ #[.int .u64 wall, .int .i64 ext, .pointer none] 74 T6.out rfl rfl (by kernel_rfl) rfl rfl ?_; intro hst hfr; have HST := Lib.hid hst; have HFS := Lib.hid hfr; clear hst hfr)
                    exact FIN.out _ (HF6.out.trans2 HFS.out (fun _ h => h.elim) (fun _ h => h)) ⟨_, _, _, HST.out⟩ _ rfl rfl rfl rfl
                  · go_wp2
                    obtain ⟨x1, x2, x3, hx⟩ := TIM3.out
                    exact FIN.out _ (HF4.out.mono (fun _ _ h => h.elim)) ⟨x1, x2, x3, HF4.out.blk hx id⟩ _ rfl rfl rfl rfl
              · have g1 : ((n1 : Int) == 1) = false := by rw [beq_eq_false_iff_ne]; have := e1.out; omega
                have g2 : ((n1 : Int) == 10) = false := by rw [beq_eq_false_iff_ne]; have := e1.out; omega
                have g3 : ((n1 : Int) == 13) = false := by rw [beq_eq_false_iff_ne]; have := e1.out; omega
                have g4 : ((n1 : Int) == 22613) = false := by rw [beq_eq_false_iff_ne]; have := e1.out; omega
                have g5 : ((n1 : Int) == 21589) = false := by rw [beq_eq_false_iff_ne]; have := e1.out; omega
                go_wp2
                obtain ⟨x1, x2, x3, hx⟩ := TIM3.out
                exact FIN.out _ ((Fr.refl _ w3).alloc _) ⟨x1, x2, x3, hx.alloc _⟩ _ rfl rfl rfl rfl
        · have h4' : ¬ (4 : Int) ≤ k := by omega
          go_wp2
          exact Met.intro (hJ2 _ _ ⟨rfl, rfl, rfl, rfl, HTS.out⟩)
    case rest2 =>
      intro a' wx hR
      obtain ⟨hr1, hr2, hr3, hr4, hts⟩ := hR
      obtain ⟨u, rfl, -⟩ := frame404 a' hr1 hr2
      have hu0 : u 0 = .pointer (some ⟨f, 0, none⟩) := hr3
      have hu20 : u 20 = .pointer (some ⟨tm, 0, none⟩) := hr4
      clear hr1 hr2 hr3 hr4
      rw [hu0, hu20]
      go_upto_region 87 with fail
      have hftm : f ≠ tm := by have := HW.out.tn; omega
      have HFx := Lib.hid (hts.1.blk HW.out.file hftm)
      have k10 : wx.cell? ⟨f, 10, none⟩ = some (.int .u16 h.time) := HFx.out.cell 10
      have k11 : wx.cell? ⟨f, 11, none⟩ = some (.int .u16 h.date) := HFx.out.cell 11
      have hfx : f < wx.heap.size := HFx.out.lt
      have HTSx := Lib.hid hts
      have HFTM := Lib.hid hftm
      clear hts hu0 hu20 hftm HH HFf HL HB hnl hcl hcs hB0 hz1 st
      refine wp_cut (R87 f tm wL) ?rest4 ?first4
      case first4 =>
        intro J4 K4 hJ4 hK4
        as_aux_lemma =>
          have nn10 := World.new_ne wx ⟨f, 10, none⟩ k10
          have nn11 := World.new_ne wx ⟨f, 11, none⟩ k11
          go_region_held3 (fun w' => w'.cell? ⟨f, 10, none⟩ = some (.int .u16 h.time) ∧ w'.cell? ⟨f, 11, none⟩ = some (.int .u16 h.date)) (go_keep) ((go_at_call 122; refine (msdos_any _ _ _).mono ?_; rintro e wy ⟨⟨y1, y2, y3, rfl⟩, hby⟩; have hc := bcell hby; have hz := bfroz hby; have hs := hby.size; try simp only [World.size_alloc, World.size_drew] at hc hz hs; have r10 : wy.cell? ⟨f, 10, none⟩ = some (.int .u16 h.time) := (by rw [hc _ _ (by first | exact hfx | omega)]; first | exact k10 | exact (((Below.refl wx.heap.size wx).alloc (Nat.le_refl _) _).cell (p := ⟨f, 10, none⟩) hfx).trans k10); have r11 : wy.cell? ⟨f, 11, none⟩ = some (.int .u16 h.date) := (by rw [hc _ _ (by first | exact hfx | omega)]; first | exact k11 | exact (((Below.refl wx.heap.size wx).alloc (Nat.le_refl _) _).cell (p := ⟨f, 11, none⟩) hfx).trans k11); have HBY := Lib.hid hby; clear hby))
          · have hf : Fr (fun _ => False) wx wy := (Fr.refl (fun _ => False) wx).drew.trans2 (Fr.of_below (S := fun _ => False) HBY.out) (fun _ h => h) (fun _ h => h)
            go_wp2
            obtain ⟨t1, x1, x2, x3, hx⟩ := HTSx.out
            exact Met.intro (hJ4 _ _ ⟨rfl, rfl, rfl, rfl, wy.heap.size, rfl, Nat.le_trans t1.size hf.size, ⟨_, _, _, Blk.new _ _ _⟩, (t1.trans2 hf (fun _ h => h) (fun _ h => h.elim)).alloc _, x1, x2, x3, (hf.blk hx id).alloc _⟩)
          · have hB : IsTim wy wx.heap.size 0 0 none := below_blk HBY.out (Blk.new wx _ _)
            have hf : Fr (fun _ => False) wx wy := ((Fr.refl (fun _ => False) wx).alloc _).drew.trans2 (Fr.of_below (S := fun _ => False) HBY.out) (fun _ h => h) (fun _ h => h)
            have HBB := Lib.hid hB
            have HFF := Lib.hid hf
            clear hB hf
            go_wp2
            obtain ⟨t1, x1, x2, x3, hx⟩ := HTSx.out
            have hne : tm ≠ wx.heap.size := Nat.ne_of_lt hx.lt
            have hnl : wx.heap.size < wL.heap.size → wx.heap.size = tm := fun hlt => absurd hlt (Nat.not_lt_of_le t1.size)
            exact Met.intro (hJ4 _ _ ⟨rfl, rfl, rfl, rfl, wx.heap.size, rfl, t1.size, ⟨_, _, _, timSet2 (timSet1 (timSet0 HBB.out _) _) _⟩, (((t1.trans2 HFF.out (fun _ h => h) (fun _ h => h.elim)).setCell hnl _).setCell hnl _).setCell hnl _, x1, x2, x3, (((HFF.out.blk hx id).set_ne hne _).set_ne hne _).set_ne hne _⟩)
      case rest4 =>
        clear k10 k11 hfx HFx HTSx
        intro a' w2 hR
        obtain ⟨hr1, hr2, hr3, hr4, tb, hr5, htb, ⟨ta, tb2, tc, htim⟩, hts2⟩ := hR
        obtain ⟨u, rfl, -⟩ := frame404 a' hr1 hr2
        have hu0 : u 0 = .pointer (some ⟨f, 0, none⟩) := hr3
        have hu20 : u 20 = .pointer (some ⟨tm, 0, none⟩) := hr4
        have hu34 : u 34 = .pointer (some ⟨tb, 0, none⟩) := hr5
        clear hr1 hr2 hr3 hr4 hr5
        rw [hu0, hu20, hu34]
        clear hu0 hu20 hu34
        have htb' : Hid (f ≠ tb ∧ tm ≠ tb) := Lib.hid (by have := HW.out.tn; have := HZ.out; omega)
        have HFL := Lib.hid (hts2.1.blk HW.out.file HFTM.out)
        have HTB := Lib.hid htim
        have HTS2 := Lib.hid hts2
        clear htim hts2
        go_upto_region 89 with (first
          | (refine wpList_load_mid rfl 74 _ rfl tb 0 rfl [.int .u64 ta, .int .i64 tb2, .pointer tc] _ (HTB.out.range rfl) Tryz.underlying74 rfl (by kernel_rfl) ?_)
          | (refine wpList_store_times rfl _ _ rfl f _ _ _ _ _ _ _ _ _ HFL.out ta tb2 tc rfl rfl ?_; intro w3 hfl hfs; have HFL3 := Lib.hid hfl; have HFS3 := Lib.hid hfs; clear hfl hfs))
        obtain ⟨x1, x2, x3, htm3⟩ : ∃ x1 x2 x3, Hid (IsTim w3 tm x1 x2 x3) := by
          obtain ⟨_, x1, x2, x3, hx⟩ := HTS2.out
          exact ⟨x1, x2, x3, Lib.hid (HFS3.out.blk hx (fun e => HFTM.out e.symm))⟩
        have HTB3 := Lib.hid (HFS3.out.blk HTB.out (fun e => htb'.out.1 e.symm))
        have HF3 : Hid (Fr (fun b => b = f ∨ b = tm) wL w3) := Lib.hid (HTS2.out.1.trans2 HFS3.out (fun _ h => .inr h) (fun _ h => .inl h))
        clear HFL HTB HTS2 HFS3
        go_wp2_with (first
          | (refine wpList_load_mid rfl 74 _ rfl tm 0 rfl [.int .u64 x1, .int .i64 x2, .pointer x3] _ (htm3.out.range rfl) Tryz.underlying74 rfl (by kernel_rfl) ?_))
        refine (isZero_any _ _ _ _).mono ?_
        rintro e w4 ⟨⟨bz, rfl⟩, hb4⟩
        have hf4 : Fr (fun _ => False) w3 w4 := Fr.of_below hb4
        have HFL4 := Lib.hid (hf4.blk HFL3.out id)
        have HTM4 := Lib.hid (hf4.blk htm3.out id)
        have HTB4 := Lib.hid (hf4.blk HTB3.out id)
        have HF4 : Hid (Fr (fun b => b = f ∨ b = tm) wL w4) := Lib.hid (HF3.out.trans2 hf4 (fun _ h => h) (fun _ h => h.elim))
        clear hb4 hf4 HFL3 htm3 HTB3 HF3
        have FIN : Hid (∀ w' y1 y2 y3, Blk w' f (fileTexts h (nonU h) (.int .u64 y1) (.int .i64 y2) (.pointer y3) (.slice (some ⟨d, o1, none⟩) h.extra.length cap1) zr zipr at_) 80 → Fr (fun b => b = f ∨ b = tm) wL w' → HeadPost R E h at_ tl f zr zipr w (.returned .nilIface) w') := by
          refine Lib.hid fun w' y1 y2 y3 hfl hfr => ?_
          obtain ⟨h1, h2, h3, h4, h5, h6, h7, h8, h9, h10, h11, h12, h13⟩ := HW.out
          refine ⟨rfl, ⟨y1, y2, y3, _, hfl, d, o1, cap1, rfl, h9, Nat.lt_of_lt_of_le h6.1 hfr.size, fun j v hj => ?_, h8⟩, h2.fr hfr ?_, h3.trans hfr ?_⟩
          · rw [hfr.cell h6.1 (by omega)]; exact h5 j v hj
          · rintro b hb (e | e)
            · exact HFR.out (e ▸ hb)
            · have := HLT.out b hb; omega
          · rintro i hi (e | e)
            · exact .inl e
            · omega
        clear HE HR HK hxl hNl hs0 hs1 hs2 hat0 hat1
        cases bz
        · go_wp2_with (first
            | (refine wpList_load_mid rfl 74 _ rfl tm 0 rfl [.int .u64 x1, .int .i64 x2, .pointer x3] _ (HTM4.out.range rfl) Tryz.underlying74 rfl (by kernel_rfl) ?_))
          refine (utcTime_any _ _ _ _).mono ?_
          rintro e w5 ⟨⟨z1, z2, z3, rfl⟩, hb5⟩
          have hf5 : Fr (fun _ => False) w4 w5 := Fr.of_below hb5
          have HFL5 := Lib.hid (hf5.blk HFL4.out id)
          have HTM5 := Lib.hid (hf5.blk HTM4.out id)
          have HTB5 := Lib.hid (hf5.blk HTB4.out id)
          have HF5 : Hid (Fr (fun b => b = f ∨ b = tm) wL w5) := Lib.hid (HF4.out.trans2 hf5 (fun _ h => h) (fun _ h => h.elim))
          clear hb5 hf5 HFL4 HTM4 HTB4 HF4
          go_upto_region 91 with (refine wpList_store_times rfl _ _ rfl f _ _ _ _ _ _ _ _ _ HFL5.out z1 z2 z3 rfl rfl ?_; intro w6 hfl hfs; have HFL6 := Lib.hid hfl; have HFS6 := Lib.hid hfs; clear hfl hfs)
          have HTM6 := Lib.hid (HFS6.out.blk HTM5.out (fun e => HFTM.out e.symm))
          have HTB6 := Lib.hid (HFS6.out.blk HTB5.out (fun e => htb'.out.1 e.symm))
          have HF6 : Hid (Fr (fun b => b = f ∨ b = tm) wL w6) := Lib.hid (HF5.out.trans2 HFS6.out (fun _ h => h) (fun _ h => .inl h))
          clear HFS6 HTM5 HTB5 HF5 HFL5
          have k10 : w6.cell? ⟨f, 10, none⟩ = some (.int .u16 h.time) := HFL6.out.cell 10
          have k11 : w6.cell? ⟨f, 11, none⟩ = some (.int .u16 h.date) := HFL6.out.cell 11
          have hor : ((h.time : Int) != 0) = true ∨ (((h.time : Int) != 0) = false ∧ ((h.date : Int) != 0) = true) ∨ (((h.time : Int) != 0) = false ∧ ((h.date : Int) != 0) = false) := by
            cases ((h.time : Int) != 0) <;> cases ((h.date : Int) != 0) <;> simp
          refine wp_cut (R91 f tm tb (fun wx => wx = w6)) ?rest5 ?first5
          case first5 =>
            intro J5 K5 hJ5 hK5
            rcases hor with q | ⟨q, q'⟩ | ⟨q, q'⟩
            · go_wp2
              exact Met.intro (hJ5 _ _ ⟨rfl, rfl, rfl, rfl, rfl, true, rfl, rfl⟩)
            · go_wp2
              exact Met.intro (hJ5 _ _ ⟨rfl, rfl, rfl, rfl, rfl, true, rfl, rfl⟩)
            · go_wp2
              exact Met.intro (hJ5 _ _ ⟨rfl, rfl, rfl, rfl, rfl, false, rfl, rfl⟩)
          case rest5 =>
            clear hor k10 k11
            intro a' wx hR
            obtain ⟨hr1, hr2, hr3, hr4, hr5, b9, hr6, rfl⟩ := hR
            obtain ⟨u, rfl, -⟩ := frame404 a' hr1 hr2
            have hu0 : u 0 = .pointer (some ⟨f, 0, none⟩) := hr3
            have hu20 : u 20 = .pointer (some ⟨tm, 0, none⟩) := hr4
            have hu34 : u 34 = .pointer (some ⟨tb, 0, none⟩) := hr5
            have hu393 : u 393 = .bool b9 := hr6
            clear hr1 hr2 hr3 hr4 hr5 hr6
            rw [hu0, hu20, hu34, hu393]
            clear hu0 hu20 hu34 hu393
            cases b9
            · go_wp2
              rw [Exit.noGoto_ret]
              go_ret
              exact FIN.out _ _ _ _ HFL6.out HF6.out
            · go_upto_region 92 with fail
              have nft : ¬ f = tm := HFTM.out
              have nft' : ¬ tm = f := fun e => nft e.symm
              have nfb : ¬ f = tb := htb'.out.1
              have nfb' : ¬ tb = f := fun e => nfb e.symm
              obtain ⟨g0, g1, g2, g3, g4, g5⟩ := six (Fr.refl (fun _ => False) wx) HTM6.out HTB6.out
              go_region_held3 (fun w' => w'.cell? ⟨tm, 0, none⟩ = some (.int .u64 x1) ∧ w'.cell? ⟨tm, 1, none⟩ = some (.int .i64 x2) ∧ w'.cell? ⟨tm, 2, none⟩ = some (.pointer x3) ∧ w'.cell? ⟨tb, 0, none⟩ = some (.int .u64 ta) ∧ w'.cell? ⟨tb, 1, none⟩ = some (.int .i64 tb2) ∧ w'.cell? ⟨tb, 2, none⟩ = some (.pointer tc)) (go_keep) ((first
                | (go_at_call 126; refine (tsub_any _ _ _ _ _ _ _).mono ?_; rintro e w7 ⟨⟨n7, rfl⟩, hb7⟩; have hf7 : Fr (fun _ => False) wx w7 := (Fr.refl (fun _ => False) wx).drew.trans2 (Fr.of_below (S := fun _ => False) hb7) (fun _ h => h) (fun _ h => h); obtain ⟨r0, r1, r2, r3, r4, r5⟩ := six hf7 HTM6.out HTB6.out; have HF7 := Lib.hid hf7; clear hb7 hf7)
                | (go_at_call 125; refine (timeZone_any _ _).mono ?_; rintro e w8 ⟨⟨lb, rfl, hlb, hlc⟩, hb8⟩; have hf8 : Fr (fun _ => False) wx w8 := HF7.out.trans2 (Fr.of_below (S := fun _ => False) hb8) (fun _ h => h) (fun _ h => h); obtain ⟨r0, r1, r2, r3, r4, r5⟩ := six hf8 HTM6.out HTB6.out; have HF8 := Lib.hid hf8; have HLB := Lib.hid hlb; have HLC := Lib.hid hlc; clear hb8 hf8 hlb hlc)
                | (go_at_call 124; refine (in_any _ _ _ lb false _ HLB.out HLC.out).mono ?_; rintro e w9 ⟨⟨p1, p2, p3, rfl⟩, hb9⟩; have hf9 : Fr (fun _ => False) wx w9 := HF8.out.trans2 (Fr.of_below (S := fun _ => False) hb9) (fun _ h => h) (fun _ h => h); obtain ⟨r0, r1, r2, r3, r4, r5⟩ := six hf9 HTM6.out HTB6.out; have hfl9 := hf9.blk HFL6.out id; obtain ⟨l7, l8, l9, z7, z8, z9⟩ := sixF hfl9; have HFL9 := Lib.hid hfl9; have HF9 := Lib.hid hf9; clear hb9 hf9 hfl9)))
              all_goals (
                go_wp2
                rw [Exit.noGoto_ret]
                go_ret
                exact FIN.out _ p1 p2 p3 (((HFL9.out.set 7 _).set 8 _).set 9 _) ((((HF6.out.trans2 HF9.out (fun _ h => h) (fun _ h => h.elim)).setCell (fun _ => .inl rfl) _).setCell (fun _ => .inl rfl) _).setCell (fun _ => .inl rfl) _))
        · go_wp2
          rw [Exit.noGoto_ret]
          go_ret
          exact FIN.out _ _ _ _ HFL4.out HF4.out

end Go.Proofs.Zip
