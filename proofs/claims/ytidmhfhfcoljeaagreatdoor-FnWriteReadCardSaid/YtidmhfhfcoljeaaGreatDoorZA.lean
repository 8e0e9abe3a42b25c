/- A part of a proof over the given program: Base, Data, Mem, Own, Crc, SpecA, SpecB, SpecC. Nothing is assumed here. -/
import Derived.Test.YtidmhfhfcoljeaaGreatDoorProg
import Derived.WalkKit
import Derived.Handy
import Derived.Deep.AppendLies
import Derived.Deep.RegionHeld3
import Derived.Deep.DrawnRows
import Derived.Deep.QuietTactic
import Derived.BigQuiet
import Derived.Lib.SlBytesRow
import Derived.Lib.Hide
import Derived.WalkLawsBesides
import Derived.WalkSpells
import Derived.Lib.BufferRead
import Derived.Deep.MidRow
import Derived.Lib.BufferWrite
import Derived.LaidEqlPtr
import Derived.Maps.AppendAt
import Derived.Deep.DeepCutAuto
namespace Go.Proofs.Zip
open Go Go.RowKit

/-- A text out of its bytes. -/
def B (l : List UInt8) : ByteArray := ⟨l.toArray⟩
@[go_sem, simp] theorem size_B (l : List UInt8) : (B l).size = l.length := by simp [B, ByteArray.size]
theorem data_B (l : List UInt8) : (B l).data.toList = l := by simp [B]
@[go_sem, simp] theorem append_B (a b : List UInt8) : B a ++ B b = B (a ++ b) := by
  apply ByteArray.ext; simp [B]
theorem eq_B (s : ByteArray) : s = B s.data.toList := by apply ByteArray.ext; simp [B]
theorem B_inj {a b : List UInt8} : B a = B b ↔ a = b := ⟨fun h => by have := congrArg (fun s => s.data.toList) h; simpa [B] using this, fun h => by rw [h]⟩
@[go_sem, simp] theorem toList_B (l : List UInt8) : (B l).toList = l := by
  rw [ByteArray.toList_eq, data_B]
@[go_sem, simp] theorem get_B (l : List UInt8) (i : Nat) (h : i < (B l).size) : (B l)[i] = l[i]'(by simpa using h) := by
  simp [B]; rfl
@[go_sem, simp] theorem extract_B (l : List UInt8) (i j : Nat) : (B l).extract i j = B ((l.drop i).take (j - i)) := by
  apply ByteArray.ext; simp [B]

/-- The lowest bytes of a number, as the reference takes them. -/
def leB : Nat → Int → List UInt8
  | 0, _ => []
  | k + 1, n => UInt8.ofNat ((n.tmod 256) % 256).toNat :: leB k (wrap64 (n.tdiv 256))
@[go_sem, simp] theorem length_leB (k : Nat) (n : Int) : (leB k n).length = k := by
  induction k generalizing n with
  | zero => rfl
  | succ k ih => simp [leB, ih]
/-- The cells of bytes. -/
def u8s (l : List UInt8) : List Value := l.map fun b => .int .u8 (b.toNat : Int)
@[simp] theorem length_u8s (l : List UInt8) : (u8s l).length = l.length := by simp [u8s]
theorem u8s_append (a b : List UInt8) : u8s (a ++ b) = u8s a ++ u8s b := by simp [u8s]

theorem infoU8 : (Tryz.prog.info? 5).map (fun i => (i.zero, i.size, i.bytes)) = some (some (.int .u8 0), 1, 1) := by kernel_rfl

theorem heap_alloc_last (w : World) (o : Obj) : (w.alloc o).heap[w.heap.size]? = some o := by show (w.heap.push o)[_]? = _; simp

/-- 'append(out, x)' of one element that has just been laid, onto a slice that the call owns. -/
theorem wpList_app1 {P : Program} {wr : World} {news : List Value} {e : TypeId} {ops : Array Oper} {rest : List Oper} {o : Oper} {a : Act} {Q : Exit → Act → World → Prop} (hg : o.guard = none) (s x : Operand) (t : TypeId)
    (ho : o.op = .call { callee := .builtin .append, args := #[s, x], argTypes := #[t, t] }) (base : Nat) {z : Value} {size bytes : Nat} (hu : P.underlying t = some (.slice e))
    (hinfo : (P.info? e).map (fun i => (i.zero, i.size, i.bytes)) = some (some z, size, bytes)) (hz : z.cells.size = size) (hs : 0 < size)
    (v : Value) (n : Nat) (xs : List Value) (hv : a.eval s = v) (hown : wr.ownsRow base e size v n xs) (hx : a.eval x = .slice (some ⟨wr.heap.size, 0, none⟩) 1 1)
    (hlen : news.length = size) (h1 : ∀ u ∈ news, u.oneCell' = true) (hn : (n + 1) * bytes ≤ 140737488355328) (hb0 : 0 < bytes) {W : World} {C : Nat} (hb : Below C W wr) (hC : C ≤ base) (hbase : base ≤ wr.heap.size)
    (h : ∀ v' w', w'.ownsRow base e size v' (n + 1) (xs ++ news) → Below C W w' → base ≤ w'.heap.size → wpList P ops Q rest (a.put o.dst v') w') : wpList P ops Q (o :: rest) a (wr.alloc (.cells news.toArray e)) := by
  obtain ⟨i0, hi, hz0, hz1, hz2⟩ := info_parts hinfo
  have hn' : n + 1 ≤ 140737488355328 := Nat.le_trans (Nat.le_mul_of_pos_right _ hb0) hn
  refine wpList_append_own _ hg s x t ho base e i0 z size bytes hu hi hz0 hz1 hz2 hz hs v n xs hv (hown.alloc _) ⟨wr.heap.size, 0, none⟩ 1 1 news hx (by omega) ?_ h1 (by unfold maxLen; omega) hn (by simp; omega) ?_
  · intro j u hj
    have := heap_alloc_last wr (.cells news.toArray e)
    have e1 : (⟨wr.heap.size, 0, none⟩ : Addr).add j = ⟨wr.heap.size, j, none⟩ := by by_cases h0 : j = 0 <;> simp [Addr.add, h0]
    rw [e1]; unfold World.cell?; simp only []; rw [this]; simpa using hj
  · intro v' w' hown' hgr _
    refine h v' w' hown' (Below.grown (hb.alloc (by omega) _) hgr (by simp; omega) fun k hk => ?_) (Nat.le_trans (by simp; omega) hgr.size)
    exact Nat.le_trans hC (hown.lt k hk).1

theorem add_at (b k j : Nat) : (⟨b, k, none⟩ : Addr).add j = ⟨b, k + j, none⟩ := by by_cases h0 : j = 0 <;> simp [Addr.add, h0]

/-- 'string(b)' of a slice of bytes that the call owns. -/
theorem run_convert_own {P : Program} {w : World} {base : Nat} {v : Value} {n : Nat} {l : List UInt8} (src e dst : TypeId) (hs : P.underlying src = some (.slice e)) (he : P.underlying e = some (.int .u8)) (hd : P.underlying dst = some .string)
    (hown : w.ownsRow base e 1 v n (u8s l)) : (convert src dst v).run P w = .ok (.string (B l)) w := by
  obtain ⟨hl, h⟩ := hown
  simp only [length_u8s, Nat.mul_one] at hl
  subst hl
  rcases h with ⟨rfl, h0⟩ | ⟨g, cap, cur, rfl, hg, hh, hc, hm, hsz, htk⟩
  · obtain rfl : l = [] := List.eq_nil_of_length_eq_zero h0
    exact Lib.run_convert_nil_bytes w src dst e 0 hs he hd
  · refine run_convert_bytes_back w src dst e _ cap l hs he hd fun j hj => ?_
    rw [add_at]; unfold World.cell?; simp only [Nat.zero_add]; rw [hh]
    simp only [Nat.mul_one] at htk
    have := congrArg (·[j]?) htk
    simp only [List.getElem?_take, hj, if_true, u8s, List.getElem?_map, List.getElem?_eq_getElem hj] at this
    simpa using this

theorem keep {W w' : World} {b o : Nat} {v : Value} (hb : Below W.heap.size W w') (hlt : b < W.heap.size) (h : W.cell? ⟨b, o, none⟩ = some v) : w'.cell? ⟨b, o, none⟩ = some v := by
  rw [hb.cell (p := ⟨b, o, none⟩) hlt]; exact h
theorem keepSize {W w' : World} {b : Nat} (hb : Below W.heap.size W w') (hlt : b < W.heap.size) : b < w'.heap.size := Nat.lt_of_lt_of_le hlt hb.size
/-- 'Below' handed on. -/
theorem onto {W w w' : World} {B : Nat} (h : Below B W w) (hb : Below w.heap.size w w') (hB : B ≤ w.heap.size) : Below B W w' := h.trans (hb.mono hB)

/-- A region that draws its order, whose operations only read and whose calls leave what was there as it was: one walk, in the order of the text. -/
theorem wp_region_below {P : Program} {id : Nat} {Q : Exit → Act → World → Prop} {a : Act} {w : World} {l : List Oper} (hm : P.follows .mixedOrders = true) (hB : Region.lexB .any l.toArray = true)
    (h : ∀ (σ : Type) (_ : Nonempty σ) (f : σ → World), (∀ x, Below w.heap.size w (f x)) → (∀ x b o, b < w.heap.size → (f x).cell? ⟨b, o, none⟩ = w.cell? ⟨b, o, none⟩) → (∀ x w', Below (f x).heap.size (f x) w' → ∃ y, w' = f y) →
      wpQuiet P l.toArray (fun w' => ∃ x, w' = f x) (fun a' => ∀ w', (∃ x, w' = f x) → Q .normal a' w') l a) : (Code.region id l.toArray true).wp P Q a w := by
  have hC : Below w.heap.size w { w with drawn := w.drawn + 1 } := (Below.refl w.heap.size w).drew
  refine wp_region_quiet (C := fun w' => ∃ x : {w' : World // Below w.heap.size w w'}, w' = x.1) hm hB ⟨⟨_, hC⟩, rfl⟩ ?_
  have := h {w' : World // Below w.heap.size w w'} ⟨⟨_, hC⟩⟩ (fun x => x.1) (fun x => x.2) (fun x b o hb => x.2.cell (p := ⟨b, o, none⟩) hb) (fun x w' hb => ⟨⟨w', onto x.2 hb x.2.size⟩, rfl⟩)
  simpa using this

theorem below_up {w W w' : World} (h : Below w.heap.size w W) (hb : Below W.heap.size W w') : Below w.heap.size w w' := onto h hb h.size
theorem setCells_alloc (w : World) (cells zs : Array Value) (T : TypeId) (h : cells.size = zs.size) : (w.alloc (.cells zs T)).setCells w.heap.size 0 cells.toList = w.alloc (.cells cells T) := by
  have key : ∀ (vs : List Value) (o : Nat) (c : Array Value), o + vs.length ≤ c.size → (w.alloc (.cells c T)).setCells w.heap.size o vs = w.alloc (.cells (c.toList.take o ++ vs ++ c.toList.drop (o + vs.length)).toArray T) := by
    intro vs
    induction vs with
    | nil => intro o c _; simp [World.setCells]
    | cons v r ih =>
      intro o c hc
      simp only [World.setCells]
      have e : (w.alloc (.cells c T)).setCell ⟨w.heap.size, o, none⟩ v = w.alloc (.cells (c.setIfInBounds o v) T) := by
        rw [World.setCell_alloc_at _ _ _ _ _ rfl]
      rw [e, ih (o + 1) (c.setIfInBounds o v) (by simp at hc ⊢; omega)]
      congr 2
      apply Array.toList_inj.1
      simp only [Array.toList_setIfInBounds, List.length_cons]
      have hl : o < c.toList.length := by simp at hc ⊢; omega
      rw [List.take_succ_eq_append_getElem (by simpa using hl)]
      simp only [List.getElem_set_self, List.append_assoc, List.cons_append, List.nil_append]
      rw [List.take_set_of_le (Nat.le_refl _), List.drop_set_of_lt (by omega)]
      rw [show o + 1 + r.length = o + (r.length + 1) by omega]
  rw [key _ 0 zs (by simp [h])]
  congr 2
  apply Array.toList_inj.1
  simp [h]

/-- 'x := v': a new variable, and its value. -/
theorem wpList_alloc_store {P : Program} {ops : Array Oper} {rest : List Oper} {o1 o2 : Oper} {a : Act} {w : World} {Q : Exit → Act → World → Prop} (T : TypeId) (x y : Operand) (cs : List Value) (hg1 : o1.guard = none) (hg2 : o2.guard = none)
    (ho1 : o1.op = .alloc T) (ho2 : o2.op = .store T x y) (hx : (a.put o1.dst (.pointer (some ⟨w.heap.size, 0, none⟩))).eval x = .pointer (some ⟨w.heap.size, 0, none⟩)) (hy : (a.put o1.dst (.pointer (some ⟨w.heap.size, 0, none⟩))).eval y = .agg cs.toArray)
    (hi : (P.info? T).map (fun i => (i.size, i.zero.map (·.cells.size))) = some (cs.length, some cs.length)) (h1 : cs.all (·.oneCell') = true)
    (h : wpList P ops Q rest ((a.put o1.dst (.pointer (some ⟨w.heap.size, 0, none⟩))).put o2.dst undef) (w.alloc (.cells cs.toArray T))) : wpList P ops Q (o1 :: o2 :: rest) a w := by
  cases hq : P.info? T with
  | none => simp [hq] at hi
  | some i =>
    simp [hq] at hi
    obtain ⟨hsz, z, hz, hzs⟩ := hi
    refine wpList_plain hg1 fun K hK => ?_
    have h2 : wpList P ops Q (o2 :: rest) (a.put o1.dst (.pointer (some ⟨w.heap.size, 0, none⟩))) (w.alloc (.cells z.cells T)) := by
      refine wpList_store_mid hg2 T x y ho2 w.heap.size 0 cs.toArray hx hy ?_ (by simp [hq, hsz]) (by simpa using h1) ?_
      · intro j hj
        have hj' : j < z.cells.size := by simp at hj; omega
        have hc : (w.alloc (.cells z.cells T)).cell? ⟨w.heap.size, 0 + j, none⟩ = some z.cells[j] := by
          rw [World.cell?_alloc_at _ _ _ _ rfl]; simp [hj']
        exact ⟨by rw [hc]; rfl, World.frozen?_alloc_at _ _ _ _ rfl⟩
      · rw [setCells_alloc w cs.toArray z.cells T (by simp; omega)]
        exact h
    have h3 := hK _ _ h2
    unfold Oper.wp execOp
    simp [ho1, Instr.alloc, zeroValue, typeInfo, hq, hz, newVar, newRow]
    exact h3
theorem rangeAt_new (w : World) (cs : List Value) (T : TypeId) : (w.alloc (.cells cs.toArray T)).rangeAt w.heap.size 0 cs := fun j v hv => by
  rw [World.cell?_alloc_at _ _ _ _ rfl]; simpa using hv
theorem rangeAt_part {w : World} {b o n : Nat} {cs ds : List Value} (h : w.rangeAt b o cs) (e : (cs.drop n).take ds.length = ds) : w.rangeAt b (o + n) ds := fun j v hv => by
  have hj : j < ds.length := (List.getElem?_eq_some_iff.1 hv).1
  rw [show o + n + j = o + (n + j) by omega]
  refine h _ _ ?_
  have := congrArg (·[j]?) e
  simp only [List.getElem?_take, hj, if_true, List.getElem?_drop] at this
  rw [this]; exact hv

theorem sizeHdr : (Tryz.prog.info? 36).map (·.size) = some 14 := by kernel_rfl
theorem sizeEnt : (Tryz.prog.info? 38).map (·.size) = some 15 := by kernel_rfl
theorem sizesEnt : (Tryz.prog.info? 38).map (fun i => (i.size, i.zero.map (·.cells.size))) = some (15, some 15) := by kernel_rfl

theorem bcell {W w1 : World} (hb : Below W.heap.size W w1) : ∀ b o, b < W.heap.size → w1.cell? ⟨b, o, none⟩ = W.cell? ⟨b, o, none⟩ := fun b o h => hb.cell (p := ⟨b, o, none⟩) h

/-- A return whose one result is a struct that lies in memory. -/
theorem bodyPost_cell {P : Program} {fn : Func} {R : Ending → World → Prop} {a : Act} {w : World} {p : Tmp} {ty : TypeId} (h : fn.results = #[.cell p ty]) (b o : Nat) (cs : List Value) {d : TypeDesc}
    (hp : a.tmps.getD p undef = .pointer (some ⟨b, o, none⟩)) (hc : w.rangeAt b o cs) (hu : P.underlying ty = some d) (hd : d.isRow = true) (hi : (P.info? ty).map (·.size) = some cs.length) (hdf : a.defers = [])
    (hR : R (.returned (.agg cs.toArray)) w) : bodyPost P fn R .ret a w := by
  refine bodyPost_ret (v := .agg cs.toArray) ?_ hdf hR
  have hl := run_loadVar_mid w b o ty cs d hc hu hd hi
  have hr : (results fn a.tmps).run P w = ((asAddr (a.tmps.getD p undef)).run P w).andThen fun x w1 => (loadVar ty x).run P w1 := by
    simp only [results, h]; simp [Sem.run_bind, Result.andThen]
  rw [hr, hp]; simp [asAddr, Result.andThen, hl]

@[go_sem, simp] theorem take_drop_len {α : Type} (l : List α) (k : Nat) : List.take (l.length - k) (List.drop k l) = List.drop k l := List.take_of_length_le (by simp)
theorem rangeAt_new' {n : Nat} {w : World} (cs : List Value) (T : TypeId) (h : n = w.heap.size) : (w.alloc (.cells cs.toArray T)).rangeAt n 0 cs := h ▸ rangeAt_new w cs T
theorem ownsRow_below {w w' : World} {base : Nat} {e : TypeId} {size : Nat} {v : Value} {n : Nat} {xs : List Value} (h : w.ownsRow base e size v n xs) (hb : Below w.heap.size w w') : w'.ownsRow base e size v n xs := by
  obtain ⟨hl, h⟩ := h
  refine ⟨hl, ?_⟩
  rcases h with h | ⟨g, cap, cur, hv, hg, hh, r⟩
  · exact .inl h
  · exact .inr ⟨g, cap, cur, hv, hg, by rw [hb.block g (Array.getElem?_eq_some_iff.1 hh).1]; exact hh, r⟩
end Go.Proofs.Zip
namespace Go.Proofs.Zip
open Go Go.RowKit
structure H where
  name : List UInt8
  comment : List UInt8
  extra : List UInt8
  non : Bool
  creator : Int
  reader : Int
  flags : Int
  method : Int
  time : Int
  date : Int
  crc : Int
  packed : Int
  size : Int
  ext : Int
/-- The cells of a header. -/
abbrev H.cells (h : H) : List Value := [.string (B h.name), .string (B h.comment), .string (B h.extra), .bool h.non, .int .i64 h.creator, .int .i64 h.reader, .int .i64 h.flags, .int .i64 h.method, .int .i64 h.time, .int .i64 h.date, .int .i64 h.crc, .int .i64 h.packed, .int .i64 h.size, .int .i64 h.ext]
abbrev H.val (h : H) : Value := .agg h.cells.toArray

structure E where
  hdr : H
  data : List UInt8
abbrev E.cells (e : E) : List Value := [.string (B e.hdr.name), .string (B e.hdr.comment), .string (B e.hdr.extra), .bool e.hdr.non, .int .i64 e.hdr.creator, .int .i64 e.hdr.reader, .int .i64 e.hdr.flags, .int .i64 e.hdr.method, .int .i64 e.hdr.time, .int .i64 e.hdr.date, .int .i64 e.hdr.crc, .int .i64 e.hdr.packed, .int .i64 e.hdr.size, .int .i64 e.hdr.ext, .string (B e.data)]
abbrev E.val (e : E) : Value := .agg e.cells.toArray

/-- The value reads as a list of entries. -/
def IsList (w : World) (v : Value) (es : List E) : Prop :=
  ∃ a cap, v = .slice a es.length cap ∧ (es ≠ [] → ∃ b off, a = some ⟨b, off, none⟩ ∧ b < w.heap.size ∧ ∀ k e, es[k]? = some e → w.rangeAt b (off + k * 15) e.cells)
theorem rangeAt_below {w w' : World} {b o : Nat} {cs : List Value} {C : Nat} (hb : Below C w w') (h : w.rangeAt b o cs) (hlt : b < C) : w'.rangeAt b o cs := fun j v hj => by
  rw [hb.cell (p := ⟨b, o + j, none⟩) hlt]; exact h j v hj
theorem IsList.below {w w' : World} {v : Value} {es : List E} (h : IsList w v es) (hb : Below w.heap.size w w') : IsList w' v es := by
  obtain ⟨a, cap, rfl, h⟩ := h
  refine ⟨a, cap, rfl, fun hne => ?_⟩
  obtain ⟨b, off, rfl, hlt, hr⟩ := h hne
  exact ⟨b, off, rfl, Nat.lt_of_lt_of_le hlt hb.size, fun k e he => rangeAt_below hb (hr k e he) hlt⟩

end Go.Proofs.Zip
namespace Go.Proofs.Zip
open Go Go.RowKit

/-- Block b holds the cells cs, and may be written. -/
abbrev Blk (w : World) (b : Nat) (cs : Array Value) (T : TypeId) : Prop := w.heap[b]? = some (.cells cs T (0, 0))
theorem Blk.lt {w : World} {b : Nat} {cs : Array Value} {T : TypeId} (h : Blk w b cs T) : b < w.heap.size := (Array.getElem?_eq_some_iff.1 h).1
theorem Blk.cell {w : World} {b : Nat} {cs : Array Value} {T : TypeId} (h : Blk w b cs T) : ∀ o, w.cell? ⟨b, o, none⟩ = cs[o]? := fun o => by
  unfold World.cell?; simp only []; rw [h]; rfl
theorem Blk.frozen {w : World} {b : Nat} {cs : Array Value} {T : TypeId} (h : Blk w b cs T) : ∀ o, w.frozen? ⟨b, o, none⟩ = false := fun o => by
  unfold World.frozen?; simp only []; rw [h]; simp
theorem Blk.set {w : World} {b : Nat} {cs : Array Value} {T : TypeId} (h : Blk w b cs T) (i : Nat) (v : Value) : Blk (w.setCell ⟨b, i, none⟩ v) b (cs.setIfInBounds i v) T := Lib.heap_setCell_same (i := i) h v
theorem Blk.set_ne {w : World} {b : Nat} {cs : Array Value} {T : TypeId} (h : Blk w b cs T) {a : Addr} (hne : b ≠ a.block) (v : Value) : Blk (w.setCell a v) b cs T := by
  rw [Blk, Below.heap_setCell _ _ _ _ hne]; exact h
theorem Blk.alloc {w : World} {b : Nat} {cs : Array Value} {T : TypeId} (h : Blk w b cs T) (o : Obj) : Blk (w.alloc o) b cs T := by
  rw [Blk, Below.heap_alloc _ _ _ h.lt]; exact h
theorem Blk.new (w : World) (cs : Array Value) (T : TypeId) : Blk (w.alloc (.cells cs T)) w.heap.size cs T := heap_alloc_last _ _
theorem Blk.new' {n : Nat} {w : World} (cs : Array Value) (T : TypeId) (h : n = w.heap.size) : Blk (w.alloc (.cells cs T)) n cs T := h ▸ heap_alloc_last _ _
theorem Blk.drew {w : World} {b : Nat} {cs : Array Value} {T : TypeId} (h : Blk w b cs T) : Blk w.drew b cs T := h
theorem Blk.range {w : World} {b : Nat} {cs : Array Value} {T : TypeId} (h : Blk w b cs T) {o : Nat} {xs : List Value} (hx : (cs.toList.drop o).take xs.length = xs) : w.rangeAt b o xs := fun j v hv => by
  have hj : j < xs.length := (List.getElem?_eq_some_iff.1 hv).1
  rw [h.cell]
  have := congrArg (·[j]?) hx
  simp only [List.getElem?_take, hj, if_true, List.getElem?_drop] at this
  rw [hv] at this; simpa using this

/-- Of what was there only the blocks of S may have turned. -/
structure Fr (S : Nat → Prop) (w w' : World) : Prop where
  os : w'.os = w.os
  tape : w'.tape = w.tape
  output : w'.output = w.output
  size : w.heap.size ≤ w'.heap.size
  block : ∀ k, k < w.heap.size → ¬ S k → w'.heap[k]? = w.heap[k]?
theorem Fr.refl (S : Nat → Prop) (w : World) : Fr S w w := ⟨rfl, rfl, rfl, Nat.le_refl _, fun _ _ _ => rfl⟩
theorem Fr.trans {S : Nat → Prop} {w w1 w2 : World} {T : Nat → Prop} (h : Fr S w w1) (k : Fr T w1 w2) (hT : ∀ i, i < w.heap.size → T i → S i) : Fr S w w2 :=
  ⟨k.os.trans h.os, k.tape.trans h.tape, k.output.trans h.output, Nat.le_trans h.size k.size, fun i hi hS => (k.block i (Nat.lt_of_lt_of_le hi h.size) (fun ht => hS (hT i hi ht))).trans (h.block i hi hS)⟩
theorem Fr.mono {S T : Nat → Prop} {w w' : World} (h : Fr S w w') (hT : ∀ i, i < w.heap.size → S i → T i) : Fr T w w' := ⟨h.os, h.tape, h.output, h.size, fun i hi hn => h.block i hi (fun hs => hn (hT i hi hs))⟩
theorem Fr.trans2 {S T U : Nat → Prop} {w w1 w2 : World} (h : Fr S w w1) (k : Fr T w1 w2) (hS : ∀ i, S i → U i) (hT : ∀ i, T i → U i) : Fr U w w2 := (h.mono fun _ _ => hS _).trans k fun _ _ => hT _
theorem Fr.of_below {S : Nat → Prop} {w w' : World} (h : Below w.heap.size w w') : Fr S w w' := ⟨h.os, h.tape, h.output, h.size, fun i hi _ => h.block i hi⟩
theorem Fr.below {S : Nat → Prop} {w w' : World} {C : Nat} (h : Fr S w w') (hC : C ≤ w.heap.size) (hS : ∀ i, i < C → ¬ S i) : Below C w w' := ⟨h.os, h.tape, h.output, h.size, fun i hi => h.block i (Nat.lt_of_lt_of_le hi hC) (hS i hi)⟩
theorem Fr.drew {S : Nat → Prop} {w w' : World} (h : Fr S w w') : Fr S w w'.drew := ⟨h.os, h.tape, h.output, h.size, h.block⟩
theorem Fr.alloc {S : Nat → Prop} {w w' : World} (h : Fr S w w') (o : Obj) : Fr S w (w'.alloc o) := h.trans (T := fun _ => False) (Fr.of_below ((Below.refl _ _).alloc (Nat.le_refl _) _)) (fun _ _ h => h.elim)
theorem Fr.setCell {S : Nat → Prop} {w w' : World} (h : Fr S w w') {a : Addr} (ha : a.block < w.heap.size → S a.block) (v : Value) : Fr S w (w'.setCell a v) :=
  h.trans (T := fun i => i = a.block) ⟨rfl, rfl, rfl, by simp [World.setCell], fun k _ hk => Below.heap_setCell _ _ _ _ hk⟩ (fun i hi e => by subst e; exact ha hi)
theorem Fr.setRow {S : Nat → Prop} {w w' : World} (h : Fr S w w') {g : Nat} (hg : g < w.heap.size → S g) (cs : Array Value) : Fr S w (w'.setRow g cs) :=
  h.trans (T := fun i => i = g) ⟨rfl, rfl, rfl, by simp [World.setRow], fun k _ hk => setRow_other w' g k cs hk⟩ (fun i hi e => by subst e; exact hg hi)
theorem Fr.blk {S : Nat → Prop} {w w' : World} (h : Fr S w w') {b : Nat} {cs : Array Value} {T : TypeId} (hb : Blk w b cs T) (hS : ¬ S b) : Blk w' b cs T := by
  rw [Blk, h.block b hb.lt hS]; exact hb
theorem Fr.cell {S : Nat → Prop} {w w' : World} (h : Fr S w w') {b o : Nat} (hb : b < w.heap.size) (hS : ¬ S b) : w'.cell? ⟨b, o, none⟩ = w.cell? ⟨b, o, none⟩ := World.cell?_of_block (w := w) (h.block b hb hS)
theorem below_blk {w w' : World} (h : Below w.heap.size w w') {b : Nat} {cs : Array Value} {T : TypeId} (hb : Blk w b cs T) : Blk w' b cs T := by
  rw [Blk, h.block b hb.lt]; exact hb

/-- Bytes laid over a row from a place on. -/
def put (cur : Array Value) (o : Nat) (l : List UInt8) : Array Value := (cur.toList.take o ++ u8s l ++ cur.toList.drop (o + l.length)).toArray
theorem size_put (cur : Array Value) (o : Nat) (l : List UInt8) (h : o + l.length ≤ cur.size) : (put cur o l).size = cur.size := by
  simp [put]; have := Nat.min_eq_left (show o ≤ cur.size by omega); omega
theorem put_get (cur : Array Value) (o : Nat) (l : List UInt8) (h : o + l.length ≤ cur.size) (i : Nat) : (put cur o l)[i]? = if o ≤ i ∧ i < o + l.length then (u8s l)[i - o]? else cur[i]? := by
  have e : (put cur o l)[i]? = (cur.toList.take o ++ (u8s l ++ cur.toList.drop (o + l.length)))[i]? := by simp [put]
  rw [e]
  have hlo : (cur.toList.take o).length = o := by simp; omega
  by_cases h1 : o ≤ i
  · rw [List.getElem?_append_right (by omega), hlo]
    by_cases h2 : i < o + l.length
    · rw [if_pos ⟨h1, h2⟩, List.getElem?_append_left (by simp; omega)]
    · rw [if_neg (by omega), List.getElem?_append_right (by simp; omega), length_u8s, List.getElem?_drop, show o + l.length + (i - o - l.length) = i by omega]; simp
  · rw [if_neg (by omega), List.getElem?_append_left (by omega), List.getElem?_take, if_pos (by omega)]; simp
theorem put_range (cur : Array Value) (o : Nat) (l : List UInt8) (h : o + l.length ≤ cur.size) : ((put cur o l).toList.drop o).take l.length = u8s l := by
  apply List.ext_getElem?
  intro i
  rw [List.getElem?_take, List.getElem?_drop, Array.getElem?_toList, put_get cur o l h]
  by_cases hi : i < l.length
  · rw [if_pos hi, if_pos (by omega), show o + i - o = i by omega]
  · rw [if_neg hi, List.getElem?_eq_none (by simp; omega)]
theorem put_put (cur : Array Value) (o : Nat) (a b : List UInt8) (h : o + a.length + b.length ≤ cur.size) : put (put cur o a) (o + a.length) b = put cur o (a ++ b) := by
  apply Array.ext_getElem?
  intro i
  rw [put_get _ _ _ (by rw [size_put _ _ _ (by omega)]; exact h), put_get _ _ _ (by omega), put_get _ _ _ (by simp; omega), u8s_append, List.length_append]
  by_cases h1 : o ≤ i
  · by_cases h2 : i < o + a.length
    · rw [if_neg (by omega), if_pos (by omega), if_pos (by omega), List.getElem?_append_left (by simp; omega)]
    · by_cases h3 : i < o + a.length + b.length
      · rw [if_pos (by omega), if_pos (by omega), List.getElem?_append_right (by simp; omega), length_u8s, show i - o - a.length = i - (o + a.length) by omega]
      · rw [if_neg (by omega), if_neg (by omega), if_neg (by omega)]
  · rw [if_neg (by omega), if_neg (by omega), if_neg (by omega)]
theorem put_nil (cur : Array Value) (o : Nat) : put cur o [] = cur := by
  apply Array.toList_inj.1; simp [put, u8s]
theorem byteCells_u8s (l : List UInt8) : Lib.byteCells l = u8s l := rfl

/-- 'copy(dst, s)' out of a text, as much of it as fits. -/
theorem run_copy_text {P : Program} (w : World) (dT sT ty elem : TypeId) (g o dLen dCap : Nat) (l : List UInt8) (cur : Array Value) (t : TypeId)
    (hu : P.underlying dT = some (.slice elem)) (hs : (P.info? elem).map (·.size) = some 1) (hg : Blk w g cur t) (n : Nat) (hn : n = min l.length dLen) (hfit : o + n ≤ cur.size) :
    (Builtin.copy_ #[dT, sT] ty #[.slice (some ⟨g, o, none⟩) dLen dCap, .string (B l)]).run P w = .ok (goInt n) (w.setRow g (put cur o (l.take n))) := by
  have hln : (l.take n).length = n := by simp; omega
  have h1 : ∀ v ∈ u8s (l.take n), v.oneCell' = true := by
    intro v hv; simp only [u8s, List.mem_map] at hv; obtain ⟨b, _, rfl⟩ := hv; rfl
  have hst := run_storeCells_at P g o t (u8s (l.take n)) 0 cur w hg (by simp; omega) h1
  simp only [Nat.add_zero, length_u8s, hln] at hst
  cases hq : P.info? elem with
  | none => simp [hq] at hs
  | some i =>
    have hmin : Nat.min (B l).size dLen = n := by rw [size_B]; exact hn.symm
    simp only [Builtin.copy_]
    simp [run_underlying hu, Builtin.lenOf, Builtin.firstCells, sizeOf, typeInfo, hq]
    have hm : l.length.min dLen = n := hn.symm
    rw [hm, data_B]
    have hst' : (storeCells ⟨g, o, none⟩ (List.map (fun b : UInt8 => Value.int IntKind.u8 (b.toNat : Int)) (List.take n l))).run P w = _ := hst
    rw [hst']
    simp [Result.andThen, put, hln]

/-- The same as a step of the walk. -/
theorem wpList_copy_text {P : Program} {ops : Array Oper} {rest : List Oper} {o : Oper} {a : Act} {w : World} {Q : Exit → Act → World → Prop} (hgd : o.guard = none) (d s : Operand) (dT sT : TypeId)
    (ho : o.op = .call { callee := .builtin .copy, args := #[d, s], argTypes := #[dT, sT] }) {elem : TypeId} (hu : P.underlying dT = some (.slice elem)) (hsz : (P.info? elem).map (·.size) = some 1)
    (g of dLen dCap : Nat) (l : List UInt8) (hd : a.eval d = .slice (some ⟨g, of, none⟩) dLen dCap) (hs : a.eval s = .string (B l)) (cur : Array Value) (t : TypeId) (hg : Blk w g cur t) (n : Nat) (hn : n = min l.length dLen) (hfit : of + n ≤ cur.size)
    (h : ∀ w', Blk w' g (put cur of (l.take n)) t → Fr (· = g) w w' → wpList P ops Q rest (a.put o.dst (.int .i64 n)) w') : wpList P ops Q (o :: rest) a w := by
  refine wpList_plain hgd fun K hK => ?_
  have hrun := run_copy_text (P := P) w dT sT o.type elem g of dLen dCap l cur t hu hsz hg n hn hfit
  have h1 := hK _ _ (h (w.setRow g (put cur of (l.take n))) (setRow_heap w g _ _ t _ hg) ((Fr.refl (· = g) _).setRow (fun _ => rfl) _))
  unfold Oper.wp
  simp [execOp, ho, resolve, invoke, builtin, hd, hs, hrun, Result.andThen]
  exact h1
theorem u8s_one (l : List UInt8) : ∀ v ∈ u8s l, v.oneCell' = true := by
  intro v hv; simp only [u8s, List.mem_map] at hv; obtain ⟨b, _, rfl⟩ := hv; rfl
/-- 'copy(dst, src)' of bytes. -/
theorem wpList_copy_bytes {P : Program} {ops : Array Oper} {rest : List Oper} {o : Oper} {a : Act} {w : World} {Q : Exit → Act → World → Prop} (hgd : o.guard = none) (d s : Operand) (dT sT : TypeId)
    (ho : o.op = .call { callee := .builtin .copy, args := #[d, s], argTypes := #[dT, sT] }) {elem : TypeId} (hu : P.underlying dT = some (.slice elem)) (hsz : (P.info? elem).map (·.size) = some 1)
    (g of dLen dCap : Nat) (b so sLen sCap : Nat) (l : List UInt8) (hd : a.eval d = .slice (some ⟨g, of, none⟩) dLen dCap) (hs : a.eval s = .slice (some ⟨b, so, none⟩) sLen sCap) (cur : Array Value) (t : TypeId) (hg : Blk w g cur t)
    (hsrc : w.rangeAt b so (u8s l)) (hn : l.length = min sLen dLen) (hfit : of + l.length ≤ cur.size)
    (h : ∀ w', Blk w' g (put cur of l) t → Fr (· = g) w w' → wpList P ops Q rest (a.put o.dst (.int .i64 l.length)) w') : wpList P ops Q (o :: rest) a w := by
  refine wpList_plain hgd fun K hK => ?_
  have hrun : (Builtin.copy_ #[dT, sT] o.type #[.slice (some ⟨g, of, none⟩) dLen dCap, .slice (some ⟨b, so, none⟩) sLen sCap]).run P w = .ok (goInt l.length) (w.setRow g (put cur of l)) := by
    have := run_copy_row (P := P) w dT sT o.type elem g of dLen dCap ⟨b, so, none⟩ sLen sCap cur t (u8s l) hu hsz hg (by rw [length_u8s, hn]) (fun j v hv => by rw [add_at]; exact hsrc j v hv) (by simpa using hfit) (u8s_one l)
    rw [length_u8s] at this; exact this
  have h1 := hK _ _ (h (w.setRow g (put cur of l)) (setRow_heap w g _ _ t _ hg) ((Fr.refl (· = g) _).setRow (fun _ => rfl) _))
  unfold Oper.wp
  simp [execOp, ho, resolve, invoke, builtin, hd, hs, hrun, Result.andThen]
  exact h1
end Go.Proofs.Zip
namespace Go.Proofs.Zip
open Go Go.RowKit
theorem Fr.of_grown {w w' : World} {row : Option Nat} (h : w.grownBy w' row) : Fr (fun b => some b = row) w w' := ⟨h.os, h.tape, h.output, h.size, fun k hk hS => h.block k hk hS⟩
theorem Fr.set1 (w : World) (b i : Nat) (v : Value) : Fr (· = b) w (w.setCell ⟨b, i, none⟩ v) := (Fr.refl (· = b) w).setCell (fun _ => rfl) v
theorem ownBlock_ge {w : World} {base : Nat} {e : TypeId} {size : Nat} {v : Value} {n : Nat} {xs : List Value} (h : w.ownsRow base e size v n xs) : ∀ b, some b = v.ownBlock → base ≤ b ∧ b < w.heap.size := fun b hb => h.lt b hb.symm
theorem ownsRow_fr {w w' : World} {base : Nat} {e : TypeId} {size : Nat} {v : Value} {n : Nat} {xs : List Value} {S : Nat → Prop} (h : w.ownsRow base e size v n xs) (hf : Fr S w w') (hS : ∀ b, S b → some b ≠ v.ownBlock) : w'.ownsRow base e size v n xs := by
  obtain ⟨hl, h⟩ := h
  refine ⟨hl, ?_⟩
  rcases h with h | ⟨g, cap, cur, hv, hg, hh, r⟩
  · exact .inl h
  · exact .inr ⟨g, cap, cur, hv, hg, by rw [hf.block g (Array.getElem?_eq_some_iff.1 hh).1 (fun hs => hS g hs (by rw [hv]; rfl))]; exact hh, r⟩
theorem rangeAt_fr {S : Nat → Prop} {w w' : World} {b o : Nat} {cs : List Value} (hf : Fr S w w') (h : w.rangeAt b o cs) (hlt : b < w.heap.size) (hS : ¬ S b) : w'.rangeAt b o cs := fun j v hj => by
  rw [hf.cell hlt hS]; exact h j v hj
/-- The length of a slice. -/
def lenOfV : Value → Nat
  | .slice _ n _ => n
  | _ => 0
theorem lenOfV_own {w : World} {base : Nat} {e : TypeId} {size : Nat} {v : Value} {n : Nat} {xs : List Value} (h : w.ownsRow base e size v n xs) : lenOfV v = n := by
  obtain ⟨_, h⟩ := h
  rcases h with ⟨rfl, h0⟩ | ⟨g, cap, cur, rfl, _⟩
  · exact h0.symm
  · rfl
theorem own_form {w : World} {base : Nat} {e : TypeId} {size : Nat} {v : Value} {n : Nat} {xs : List Value} (h : w.ownsRow base e size v n xs) : ∃ x cap, v = .slice x n cap := by
  obtain ⟨_, h⟩ := h
  rcases h with ⟨rfl, h0⟩ | ⟨g, cap, cur, rfl, _⟩
  · exact ⟨none, 0, by rw [h0]⟩
  · exact ⟨_, _, rfl⟩
end Go.Proofs.Zip
namespace Go.Proofs.Zip
/-- One bit of the checksum. -/
def crcBit (c : Nat) : Nat := if c % 2 = 1 then (c / 2) ^^^ 3988292384 else c / 2
/-- Eight bits. -/
def crc8 (c : Nat) : Nat := crcBit (crcBit (crcBit (crcBit (crcBit (crcBit (crcBit (crcBit c)))))))
def crcRaw (c : Nat) (l : List UInt8) : Nat := l.foldl (fun c b => crc8 (c ^^^ b.toNat)) c
def crc (l : List UInt8) : Nat := crcRaw 4294967295 l ^^^ 4294967295

theorem xor_div2 (a b : Nat) : (a ^^^ b) / 2 = (a / 2) ^^^ (b / 2) := by
  have := @Nat.xor_div_two_pow a b 1; simpa using this
theorem xor_mod2 (a b : Nat) : (a ^^^ b) % 2 = (a % 2 + b % 2) % 2 := by
  have := @Nat.xor_mod_two_pow a b 1
  simp at this; rw [this]
  rcases Nat.mod_two_eq_zero_or_one a with h | h <;> rcases Nat.mod_two_eq_zero_or_one b with h' | h' <;> simp [h, h']

theorem crcBit_xor (a b : Nat) : crcBit (a ^^^ b) = crcBit a ^^^ crcBit b := by
  unfold crcBit
  rw [xor_div2, xor_mod2]
  rcases Nat.mod_two_eq_zero_or_one a with h | h <;> rcases Nat.mod_two_eq_zero_or_one b with h' | h' <;> simp only [h, h'] <;> simp
  · ac_rfl
  · ac_rfl
  · have : (a / 2 ^^^ 3988292384) ^^^ (b / 2 ^^^ 3988292384) = (a / 2 ^^^ b / 2) ^^^ (3988292384 ^^^ 3988292384) := by ac_rfl
    rw [this]; simp

theorem crc8_xor (a b : Nat) : crc8 (a ^^^ b) = crc8 a ^^^ crc8 b := by
  unfold crc8; simp only [crcBit_xor]

theorem crcBit_lt {c : Nat} (h : c < 4294967296) : crcBit c < 4294967296 := by
  unfold crcBit; split
  · exact Nat.xor_lt_two_pow (n := 32) (by omega) (by decide)
  · omega
theorem crc8_lt {c : Nat} (h : c < 4294967296) : crc8 c < 4294967296 := by
  unfold crc8; exact crcBit_lt (crcBit_lt (crcBit_lt (crcBit_lt (crcBit_lt (crcBit_lt (crcBit_lt (crcBit_lt h)))))))

theorem byte_lt (b : UInt8) : b.toNat < 4294967296 := by have := b.toNat_lt; omega
theorem crcRaw_lt (l : List UInt8) : ∀ {c : Nat}, c < 4294967296 → crcRaw c l < 4294967296 := by
  induction l with
  | nil => intro c h; exact h
  | cons b l ih => intro c h; exact ih (crc8_lt (Nat.xor_lt_two_pow (n := 32) h (byte_lt b)))
theorem crc_lt (l : List UInt8) : crc l < 4294967296 := Nat.xor_lt_two_pow (n := 32) (crcRaw_lt l (by decide)) (by decide)

theorem testBit_div2 (a i : Nat) : (a / 2).testBit i = a.testBit (i + 1) := by rw [Nat.testBit_succ]

/-- One step is injective below 2^32. -/
theorem crcBit_zero {a : Nat} (h : a < 4294967296) (hz : crcBit a = 0) : a = 0 := by
  unfold crcBit at hz
  split at hz
  · exfalso
    have h31 : ((a / 2) ^^^ 3988292384).testBit 31 = false := by rw [hz]; simp
    rw [Nat.testBit_xor, testBit_div2, Nat.testBit_lt_two_pow (x := a) (i := 32) (by omega)] at h31
    revert h31; decide
  · omega
theorem crc8_zero {a : Nat} (h : a < 4294967296) (hz : crc8 a = 0) : a = 0 := by
  unfold crc8 at hz
  have h1 := crcBit_lt h
  have h2 := crcBit_lt h1
  have h3 := crcBit_lt h2
  have h4 := crcBit_lt h3
  have h5 := crcBit_lt h4
  have h6 := crcBit_lt h5
  have h7 := crcBit_lt h6
  exact crcBit_zero h (crcBit_zero h1 (crcBit_zero h2 (crcBit_zero h3 (crcBit_zero h4 (crcBit_zero h5 (crcBit_zero h6 (crcBit_zero h7 hz)))))))

theorem xor_eq_zero {a b : Nat} (h : a ^^^ b = 0) : a = b := by
  have : a ^^^ b ^^^ b = 0 ^^^ b := by rw [h]
  simpa [Nat.xor_assoc] using this

theorem crc8_inj {a b : Nat} (ha : a < 4294967296) (hb : b < 4294967296) (h : crc8 a = crc8 b) : a = b := by
  have hz : crc8 (a ^^^ b) = 0 := by rw [crc8_xor, h]; simp
  exact xor_eq_zero (crc8_zero (Nat.xor_lt_two_pow (n := 32) ha hb) hz)

theorem xor_right_inj {a b c : Nat} (h : a ^^^ c = b ^^^ c) : a = b := by
  have : (a ^^^ c) ^^^ c = (b ^^^ c) ^^^ c := by rw [h]
  simpa [Nat.xor_assoc] using this
theorem xor_left_inj {a b c : Nat} (h : c ^^^ a = c ^^^ b) : a = b := by
  rw [Nat.xor_comm c a, Nat.xor_comm c b] at h; exact xor_right_inj h

theorem crcRaw_inj (l : List UInt8) : ∀ {a b : Nat}, a < 4294967296 → b < 4294967296 → crcRaw a l = crcRaw b l → a = b := by
  induction l with
  | nil => intro a b _ _ h; exact h
  | cons x l ih =>
    intro a b ha hb h
    have hx := byte_lt x
    have := ih (crc8_lt (Nat.xor_lt_two_pow (n := 32) ha hx)) (crc8_lt (Nat.xor_lt_two_pow (n := 32) hb hx)) h
    exact xor_right_inj (crc8_inj (Nat.xor_lt_two_pow (n := 32) ha hx) (Nat.xor_lt_two_pow (n := 32) hb hx) this)

/-- One byte that is another one is told. -/
theorem crc_turned (pre : List UInt8) (x y : UInt8) (post : List UInt8) (hne : x ≠ y) : crc (pre ++ x :: post) ≠ crc (pre ++ y :: post) := by
  intro h
  unfold crc at h
  have h := xor_right_inj h
  unfold crcRaw at h
  rw [List.foldl_append, List.foldl_append, List.foldl_cons, List.foldl_cons] at h
  have hp : crcRaw 4294967295 pre < 4294967296 := crcRaw_lt pre (by decide)
  have hx := byte_lt x
  have hy := byte_lt y
  have h1 := crcRaw_inj post (crc8_lt (Nat.xor_lt_two_pow (n := 32) hp hx)) (crc8_lt (Nat.xor_lt_two_pow (n := 32) hp hy)) h
  have h2 := xor_left_inj (crc8_inj (Nat.xor_lt_two_pow (n := 32) hp hx) (Nat.xor_lt_two_pow (n := 32) hp hy) h1)
  exact hne (UInt8.toNat_inj.1 h2)

/-! The table, and slicing by eight. -/
theorem split256 (x : Nat) : x = x % 256 ^^^ (x / 256 * 256) := by
  apply Nat.eq_of_testBit_eq
  intro i
  rw [Nat.testBit_xor, show (256 : Nat) = 2 ^ 8 from rfl, Nat.testBit_mod_two_pow, Nat.testBit_mul_two_pow, Nat.testBit_div_two_pow]
  by_cases h : i < 8
  · have h8 : ¬ 8 ≤ i := by omega
    simp [h, h8]
  · have h8 : 8 ≤ i := by omega
    simp [h, h8, Nat.sub_add_cancel h8]
theorem xor_mul256 (a b : Nat) : (a ^^^ b) * 256 = (a * 256) ^^^ (b * 256) := by
  apply Nat.eq_of_testBit_eq
  intro i
  rw [Nat.testBit_xor, show (256 : Nat) = 2 ^ 8 from rfl, Nat.testBit_mul_two_pow, Nat.testBit_mul_two_pow, Nat.testBit_mul_two_pow, Nat.testBit_xor]
  by_cases h : 8 ≤ i <;> simp [h]
theorem crcBit_mul (z : Nat) : crcBit (z * 2) = z := by unfold crcBit; rw [if_neg (by omega)]; omega
theorem crc8_mul (y : Nat) : crc8 (y * 256) = y := by
  unfold crc8
  rw [show y * 256 = y * 2 * 2 * 2 * 2 * 2 * 2 * 2 * 2 by omega]
  simp only [crcBit_mul]
theorem crc8_split (x : Nat) : crc8 x = crc8 (x % 256) ^^^ (x / 256) := by
  conv => lhs; rw [split256 x]
  rw [crc8_xor, crc8_mul]

def crcN : Nat → Nat → Nat
  | 0, c => c
  | n + 1, c => crc8 (crcN n c)
theorem crcN_xor (n a b : Nat) : crcN n (a ^^^ b) = crcN n a ^^^ crcN n b := by
  induction n with
  | zero => rfl
  | succ n ih => simp only [crcN, ih, crc8_xor]
theorem crcN_succ' (n c : Nat) : crcN (n + 1) c = crcN n (crc8 c) := by
  induction n with
  | zero => rfl
  | succ n ih => show crc8 (crcN (n+1) c) = crc8 (crcN n (crc8 c)); rw [ih]
theorem low_bytes' (c c1 c2 c3 : Nat) (h1 : c1 = c / 256) (h2 : c2 = c1 / 256) (h3 : c3 = c2 / 256) :
    c = (c % 256) ^^^ ((c1 % 256) * 256) ^^^ ((c2 % 256) * 256 * 256) ^^^ (c3 * 256 * 256 * 256) := by
  have e1 := split256 c
  have e2 := split256 c1
  have e3 := split256 c2
  rw [← h1] at e1
  rw [← h2] at e2
  rw [← h3] at e3
  have g : c % 256 ^^^ (c1 % 256 ^^^ (c2 % 256 ^^^ c3 * 256) * 256) * 256 = c := by rw [← e3, ← e2, ← e1]
  rw [xor_mul256, xor_mul256, xor_mul256] at g
  rw [Nat.xor_assoc, Nat.xor_assoc]
  exact g.symm

theorem crcN4' (c c1 c2 c3 : Nat) (h1 : c1 = c / 256) (h2 : c2 = c1 / 256) (h3 : c3 = c2 / 256) :
    crcN 4 c = crcN 4 (c % 256) ^^^ crcN 3 (c1 % 256) ^^^ crcN 2 (c2 % 256) ^^^ crcN 1 c3 := by
  conv => lhs; rw [low_bytes' c c1 c2 c3 h1 h2 h3]
  rw [crcN_xor, crcN_xor, crcN_xor, crcN_succ' 3 (c1 % 256 * 256), crc8_mul, crcN_succ' 3 (c2 % 256 * 256 * 256), crc8_mul, crcN_succ' 2 (c2 % 256 * 256), crc8_mul, crcN_succ' 3 (c3 * 256 * 256 * 256), crc8_mul,
    crcN_succ' 2 (c3 * 256 * 256), crc8_mul, crcN_succ' 1 (c3 * 256), crc8_mul]
/-- Four bytes at once. -/
theorem crcN4 (c : Nat) : crcN 4 c = crcN 4 (c % 256) ^^^ crcN 3 (c / 256 % 256) ^^^ crcN 2 (c / 65536 % 256) ^^^ crcN 1 (c / 16777216) :=
  crcN4' c _ _ _ rfl (by omega) (by omega)
end Go.Proofs.Zip
namespace Go.Proofs.Zip
open Go Go.RowKit
set_option maxRecDepth 100000 in
theorem bytes_any (n : Int) (k : Nat) (w : World) (hk : k ≤ 8) : Calls Tryz.prog 57 #[.int .i64 n, .int .i64 k] w fun e w' => e = .returned (.string (B (leB k n))) ∧ RowKit.Below w.heap.size w w' := by
  go_enter Tryz.func57, Tryz.ntmps57
  go_wp2
  go_loopw [5, 0, 1] (fun t5 t0 t1 wr => ∃ (j : Nat) (l : List UInt8) (m : Int), t0 = .int .i64 m ∧ t1 = .int .i64 j ∧ j ≤ k ∧ Hid (l.length + j = k) ∧ Hid (leB k n = l ++ leB j m) ∧ wr.ownsRow w.heap.size 5 1 t5 l.length (u8s l) ∧ Below w.heap.size w wr) (fun _ _ t1 _ => (intOf t1).toNat)
  case atStart =>
    exact ⟨k, [], n, rfl, rfl, Nat.le_refl _, Nat.zero_add _, rfl, ⟨rfl, .inr ⟨_, 0, _, rfl, Nat.le_refl _, heap_alloc_last _ _, Nat.le_refl _, by decide, rfl, rfl⟩⟩, (Below.refl _ _).alloc (Nat.le_refl _) _⟩
  case round =>
    obtain ⟨j, l, m, rfl, rfl, hj, hl, hle, hown, hb⟩ := hrel
    by_cases h0 : 0 < j
    · obtain ⟨j, rfl⟩ : ∃ i, j = i + 1 := ⟨j - 1, by omega⟩
      clear h0
      go_wp2_with (at_builtin; refine wpList_app1 (news := [.int .u8 (m.tmod 256 % 256)]) rfl _ _ 76 rfl w.heap.size Tryz.underlying76 infoU8 rfl (by decide) _ _ _ rfl hown rfl rfl ?c1 ?c2 (by decide) hb (Nat.le_refl _) hb.size ?_)
      case c1 => simp [Value.oneCell']
      case c2 => have := hl.out; omega
      intro v' w' hown' hb' _
      go_wp2
      have hby : (m.tmod 256 % 256) = ((UInt8.ofNat ((m.tmod 256) % 256).toNat).toNat : Int) := by
        simp only [UInt8.toNat_ofNat']; omega
      refine ⟨⟨j, l ++ [UInt8.ofNat ((m.tmod 256) % 256).toNat], _, rfl, rfl, by omega, ?_, ?_, ?_, hb'⟩, by simp [intOf]⟩
      · have := hl.out; show _ = _; simp; omega
      · show _ = _; rw [hle.out]; simp [leB]
      · rw [u8s_append]; rw [hby] at hown'; simpa [u8s] using hown'
    · obtain rfl : j = 0 := by omega
      clear h0
      have hcv := run_convert_own 76 5 9 Tryz.underlying76 Tryz.underlying5 Tryz.underlying9 hown
      go_wp2
      go_ret
      exact ⟨by rw [hle.out]; simp [leB], hb⟩
/-- The same, the number of bytes as the walk has it. -/
theorem bytes_at (n k : Int) (w : World) (hk : 0 ≤ k) (hk8 : k ≤ 8) : Calls Tryz.prog 57 #[.int .i64 n, .int .i64 k] w fun e w' => e = .returned (.string (B (leB k.toNat n))) ∧ RowKit.Below w.heap.size w w' := by
  obtain ⟨m, rfl⟩ := Int.eq_ofNat_of_zero_le hk
  exact bytes_any n m w (by omega)
def fieldsL (h : H) : List UInt8 := leB 2 h.flags ++ leB 2 h.method ++ leB 2 h.time ++ leB 2 h.date ++ leB 4 h.crc ++ leB 4 h.packed ++ leB 4 h.size

set_option maxRecDepth 100000 in
theorem fields_any (h : H) (w : World) : Calls Tryz.prog 62 #[h.val] w fun e w' => e = .returned (.string (B (fieldsL h))) ∧ Below w.heap.size w w' := by
  go_enter Tryz.func62, Tryz.ntmps62
  go_wp2_with fail
  refine wp_region_below (by kernel_rfl) (by kernel_rfl) fun σ _ f hf hcell hmk => ?_
  simp only [World.size_alloc] at hcell
  repeat (go_big_quiet_step ((exact (bytes_at _ _ _ (by decide) (by decide)).mono fun e w'' ⟨he, hb⟩ => ⟨he, hmk _ _ hb⟩)))
  refine wpQuiet_nil ?_
  rintro _ ⟨x, rfl⟩
  go_wp2
  go_ret
  exact ⟨rfl, ((Below.refl _ _).alloc (Nat.le_refl _) _).trans ((hf x).mono (by simp))⟩

def localL (h : H) : List UInt8 := [80, 75, 3, 4] ++ leB 2 h.reader ++ fieldsL h ++ leB 2 h.name.length ++ leB 2 h.extra.length ++ h.name ++ h.extra
def centralL (h : H) (at_ : Int) : List UInt8 := [80, 75, 1, 2] ++ leB 2 h.creator ++ leB 2 h.reader ++ fieldsL h ++ leB 2 h.name.length ++ leB 2 h.extra.length ++ leB 2 h.comment.length ++ leB 2 0 ++ leB 2 0 ++ leB 4 h.ext ++ leB 4 at_ ++ h.name ++ h.extra ++ h.comment
def endL (many size at_ : Int) (comment : List UInt8) : List UInt8 := [80, 75, 5, 6] ++ leB 2 0 ++ leB 2 0 ++ leB 2 many ++ leB 2 many ++ leB 4 size ++ leB 4 at_ ++ leB 2 comment.length ++ comment
@[go_sem, simp] theorem length_fieldsL (h : H) : (fieldsL h).length = 20 := by simp [fieldsL]
theorem length_localL (h : H) : (localL h).length = 30 + h.name.length + h.extra.length := by simp [localL]; omega
theorem length_centralL (h : H) (a : Int) : (centralL h a).length = 46 + h.name.length + h.extra.length + h.comment.length := by simp [centralL]; omega
theorem length_endL (m s a : Int) (c : List UInt8) : (endL m s a c).length = 22 + c.length := by simp [endL]; omega
/-- A header's texts are no longer than 2^31 - 1 bytes. -/
structure Small (h : H) : Prop where
  name : h.name.length ≤ 2147483647
  comment : h.comment.length ≤ 2147483647
  extra : h.extra.length ≤ 2147483647

theorem B_lit (l : List UInt8) (s : ByteArray) (h : s.data.toList = l) : s = B l := by rw [eq_B s, h]

set_option maxRecDepth 100000 in
set_option maxHeartbeats 1000000 in
theorem local_any (h : H) (w : World) (hs : Small h) : Calls Tryz.prog 39 #[h.val] w fun e w' => e = .returned (.string (B (localL h))) ∧ Below w.heap.size w w' := by
  obtain ⟨n1, n2, n3⟩ := hs
  go_enter Tryz.func39, Tryz.ntmps39
  go_wp2_with fail
  refine wp_region_below (by kernel_rfl) (by kernel_rfl) fun σ _ f hf hcell hmk => ?_
  simp only [World.size_alloc] at hcell
  repeat (go_big_quiet_step ((first
    | (go_at_call 57; exact (bytes_at _ _ _ (by decide) (by decide)).mono fun e w'' ⟨he, hb⟩ => ⟨he, hmk _ _ hb⟩)
    | (go_at_call 62; exact (fields_any h _).mono fun e w'' ⟨he, hb⟩ => ⟨he, hmk _ _ hb⟩))))
  refine wpQuiet_nil ?_
  rintro _ ⟨x, rfl⟩
  go_wp2
  go_ret
  exact ⟨rfl, below_up (by go_grown) (hf x)⟩

set_option maxRecDepth 100000 in
set_option maxHeartbeats 2000000 in
theorem central_any (h : H) (at_ : Int) (w : World) (hs : Small h) : Calls Tryz.prog 56 #[h.val, .int .i64 at_] w fun e w' => e = .returned (.string (B (centralL h at_))) ∧ Below w.heap.size w w' := by
  obtain ⟨n1, n2, n3⟩ := hs
  go_enter Tryz.func56, Tryz.ntmps56
  go_wp2_with fail
  refine wp_region_below (by kernel_rfl) (by kernel_rfl) fun σ _ f hf hcell hmk => ?_
  simp only [World.size_alloc] at hcell
  repeat (go_big_quiet_step ((first
    | (go_at_call 57; exact (bytes_at _ _ _ (by decide) (by decide)).mono fun e w'' ⟨he, hb⟩ => ⟨he, hmk _ _ hb⟩)
    | (go_at_call 62; exact (fields_any h _).mono fun e w'' ⟨he, hb⟩ => ⟨he, hmk _ _ hb⟩))))
  refine wpQuiet_nil ?_
  rintro _ ⟨x, rfl⟩
  go_wp2
  go_ret
  exact ⟨rfl, below_up (by go_grown) (hf x)⟩

set_option maxRecDepth 100000 in
theorem end_any (many size at_ : Int) (c : List UInt8) (w : World) (hc : c.length ≤ 9223372036854775000) : Calls Tryz.prog 31 #[.int .i64 many, .int .i64 size, .int .i64 at_, .string (B c)] w fun e w' => e = .returned (.string (B (endL many size at_ c))) ∧ Below w.heap.size w w' := by
  go_enter Tryz.func31, Tryz.ntmps31
  go_wp2_with ((go_at_call 57; refine (bytes_at _ _ _ (by decide) (by decide)).mono ?_; rintro e w1 ⟨rfl, hb1⟩))
  go_ret
  exact ⟨rfl, by repeat (first | (with_reducible exact Below.refl _ _) | (refine below_up ?_ (by assumption)))⟩
end Go.Proofs.Zip
namespace Go.Proofs.Zip
open Go Go.RowKit
/-- no text longer than 2^31 - 1 -/
def fits3 (h : H) : Bool := decide (h.name.length ≤ 2147483647) && decide (h.comment.length ≤ 2147483647) && decide (h.extra.length ≤ 2147483647)
def fits2 (e : E) : Bool := fits3 e.hdr && decide (e.data.length ≤ 2147483647)

theorem fits3_any (h : H) (w : World) : Calls Tryz.prog 55 #[h.val] w fun e w' => e = .returned (.bool (fits3 h)) ∧ Below w.heap.size w w' := by
  go_enter Tryz.func55, Tryz.ntmps55
  go_wp2
  all_goals (go_ret; exact ⟨by congr 2; simp [fits3]; omega, by go_grown⟩)

theorem fits2_any (e : E) (w : World) : Calls Tryz.prog 28 #[e.val] w fun r w' => r = .returned (.bool (fits2 e)) ∧ Below w.heap.size w w' := by
  go_enter Tryz.func28, Tryz.ntmps28
  go_wp2_with fail
  refine (fits3_any e.hdr _).mono ?_
  rintro r w' ⟨rfl, hb⟩
  have hc := keep hb (b := w.heap.size) (o := 14) (v := .string (B e.data)) (by simp) (by simp)
  go_wp2
  all_goals (go_ret; exact ⟨by congr 2; simp_all [fits2]; try omega, below_up (by go_grown) hb⟩)
theorem fits2_any' (e : E) (v : Value) (hv : v = e.val) (w : World) : Calls Tryz.prog 28 #[v] w fun r w' => r = .returned (.bool (fits2 e)) ∧ Below w.heap.size w w' := hv ▸ fits2_any e w

def fits1 (es : List E) : Bool := decide (es.length ≤ 2147483647) && es.all fits2

set_option maxRecDepth 100000 in
theorem fits1_any (es : List E) (v : Value) (w : World) (hv : IsList w v es) (hlen : es.length ≤ 9223372036854775807) : Calls Tryz.prog 10 #[v] w fun r w' => r = .returned (.bool (fits1 es)) ∧ Below w.heap.size w w' := by
  obtain ⟨a, cap, rfl, hl⟩ := hv
  by_cases h0 : es.length ≤ 2147483647
  · go_enter Tryz.func10, Tryz.ntmps10
    go_wp2
    go_loopw [10] (fun t10 wr => ∃ k : Nat, t10 = .int .i64 k ∧ k ≤ es.length ∧ Hid ((es.take k).all fits2 = true) ∧ Below w.heap.size w wr) (fun t10 _ => es.length - (intOf t10).toNat)
    case atStart => exact ⟨0, rfl, Nat.zero_le _, rfl, Below.refl _ _⟩
    case round =>
      obtain ⟨k, rfl, hk, hall, hb⟩ := hrel
      by_cases hlt : k < es.length
      · obtain ⟨b, off, rfl, hblt, hr⟩ := hl (fun e => by simp [e] at hlt)
        have hr := rangeAt_below hb (hr k es[k] (List.getElem?_eq_getElem hlt)) hblt
        have hsz := hb.size
        generalize he : es[k] = e at hr
        have He := Lib.hid he
        clear he
        go_wp2_with (first
          | (refine wpList_load_mid rfl 38 _ rfl b (off + k * 15) rfl e.cells _ hr Tryz.underlying38 rfl sizeEnt ?_)
          | (refine wpList_alloc_store 38 _ _ e.cells rfl rfl rfl rfl rfl rfl sizesEnt rfl ?_)
          | (refine wpList_load_mid rfl 38 _ rfl wr.heap.size 0 rfl e.cells _ (rangeAt_new _ _ _) Tryz.underlying38 rfl sizeEnt ?_)
          | (go_at_call 28; refine (fits2_any e _).mono ?_; rintro r w' ⟨rfl, hb1⟩))
        · have hf : (!fits2 e) = true := ‹_›
          go_ret
          refine ⟨?_, below_up (by go_grown) hb1⟩
          congr 2
          have : es.all fits2 = false := by
            rw [List.all_eq_false]; exact ⟨e, by rw [← He.out]; exact List.getElem_mem hlt, by simpa using hf⟩
          simp [fits1, this]
        · have hf : (!fits2 e) = false := ‹_›
          refine ⟨⟨k + 1, by go_num, by omega, ?_, below_up (by go_grown) hb1⟩, by simp [intOf]; omega⟩
          show _ = _
          rw [List.take_succ_eq_append_getElem hlt, List.all_append, hall.out, He.out]; simpa using hf
      · obtain rfl : k = es.length := by omega
        go_wp2
        go_ret
        refine ⟨?_, hb⟩
        have := hall.out
        rw [List.take_of_length_le (Nat.le_refl _)] at this
        simp [fits1, this]; omega
  · go_enter Tryz.func10, Tryz.ntmps10
    go_wp2
    go_ret
    exact ⟨by simp [fits1, h0], Below.refl _ _⟩

def simpleB (h : H) : Bool := h.flags.tdiv 8 |> wrap64 |>.tmod 2 |> (· == 0)
theorem simple_any (h : H) (w : World) : Calls Tryz.prog 18 #[h.val] w fun e w' => e = .returned (.bool (simpleB h)) ∧ Below w.heap.size w w' := by
  go_enter Tryz.func18, Tryz.ntmps18
  go_wp2
  go_ret
  exact ⟨rfl, by go_grown⟩
def within (n lo hi : Int) : Bool := decide (lo ≤ n) && decide (n ≤ hi)
theorem within_any (n lo hi : Int) (w : World) : Calls Tryz.prog 51 #[.int .i64 n, .int .i64 lo, .int .i64 hi] w fun e w' => e = .returned (.bool (within n lo hi)) ∧ w = w' := by
  by_cases h : lo ≤ n
  · have hd : decide (lo ≤ n) = true := by simpa using h
    go_enter Tryz.func51, Tryz.ntmps51
    go_wp2
    go_ret
    exact ⟨by simp [within, h], rfl⟩
  · have hd : decide (lo ≤ n) = false := by simpa using h
    go_enter Tryz.func51, Tryz.ntmps51
    go_wp2
    go_ret
    exact ⟨by simp [within]; omega, rfl⟩

def twoB (h : H) : Bool := within h.creator 0 65535 && within h.reader 0 65535 && within h.flags 0 65535 && within h.method 0 65535 && within h.time 0 65535 && within h.date 0 65535
def fourB (h : H) : Bool := within h.crc 0 4294967295 && within h.packed 0 4294967294 && within h.size 0 4294967294 && within h.ext 0 4294967295
def headerOk (h : H) : Bool := twoB h && fourB h && decide (h.name.length ≤ 60000) && decide (h.comment.length ≤ 60000) && decide (h.extra.length ≤ 60000)
set_option maxRecDepth 100000 in
theorem headerOk_any (h : H) (w : World) : Calls Tryz.prog 25 #[h.val] w fun e w' => e = .returned (.bool (headerOk h)) ∧ Below w.heap.size w w' := by
  go_enter Tryz.func25, Tryz.ntmps25
  go_upto_region 1 with fail
  go_cut [3] (fun s3 wx => s3 = .bool (twoB h) ∧ wx = w.alloc (.cells h.cells.toArray 36))
  case first =>
    go_wp2_with ((go_at_call 51; refine (within_any _ _ _ _).mono ?_; rintro e w1 ⟨rfl, rfl⟩))
    all_goals (go_meet; exact ⟨by simp [twoB, *], rfl⟩)
  case rest =>
    obtain ⟨rfl, rfl⟩ := hcut
    go_upto_region 2 with fail
    go_cut [4] (fun s4 wx => s4 = .bool (fourB h) ∧ wx = w.alloc (.cells h.cells.toArray 36))
    case first =>
      go_wp2_with ((go_at_call 51; refine (within_any _ _ _ _).mono ?_; rintro e w1 ⟨rfl, rfl⟩))
      all_goals (go_meet; exact ⟨by simp [fourB, *], rfl⟩)
    case rest =>
      obtain ⟨rfl, rfl⟩ := hcut
      go_wp2
      all_goals (go_ret; refine ⟨congrArg (fun b => Ending.returned (Value.bool b)) ?_, by go_grown⟩; rw [Bool.eq_iff_iff]; simp [headerOk, *]; try omega)
end Go.Proofs.Zip
namespace Go.Proofs.Zip
open Go Go.RowKit

def filesL (es : List E) : List UInt8 := es.flatMap fun e => localL e.hdr ++ e.data
theorem filesL_snoc (es : List E) (k : Nat) (h : k < es.length) : filesL (es.take (k + 1)) = filesL (es.take k) ++ (localL es[k].hdr ++ es[k].data) := by
  unfold filesL; rw [List.take_succ_eq_append_getElem h, List.flatMap_append]; simp
theorem filesL_le (es : List E) (k : Nat) : (filesL (es.take k)).length ≤ (filesL es).length := by
  conv => rhs; rw [← List.take_append_drop k es]
  simp only [filesL, List.flatMap_append, List.length_append]; omega

set_option maxRecDepth 100000 in
theorem files_any (es : List E) (v : Value) (w : World) (hv : IsList w v es) (hlen : es.length ≤ 4611686018427387904) (hs : ∀ e ∈ es, Small e.hdr) (hsz : (filesL es).length ≤ 4611686018427387904) : Calls Tryz.prog 29 #[v] w fun r w' => r = .returned (.string (B (filesL es))) ∧ Below w.heap.size w w' := by
  obtain ⟨a, cap, rfl, hl⟩ := hv
  have HS := Lib.hid hs
  clear hs
  go_enter Tryz.func29, Tryz.ntmps29
  go_wp2
  go_loopw [3, 8] (fun t3 t8 wr => ∃ k : Nat, t8 = .int .i64 k ∧ t3 = .string (B (filesL (es.take k))) ∧ k ≤ es.length ∧ Below w.heap.size w wr) (fun _ t8 _ => es.length - (intOf t8).toNat)
  case atStart => exact ⟨0, rfl, rfl, Nat.zero_le _, Below.refl _ _⟩
  case round =>
    obtain ⟨k, rfl, rfl, hk, hb⟩ := hrel
    by_cases hlt : k < es.length
    · obtain ⟨b, off, rfl, hblt, hr⟩ := hl (fun e => by simp [e] at hlt)
      have hr := rangeAt_below hb (hr k es[k] (List.getElem?_eq_getElem hlt)) hblt
      have hsm := HS.out es[k] (List.getElem_mem hlt)
      have hle := filesL_le es (k + 1)
      have hsn := filesL_snoc es k hlt
      have hsz' := hb.size
      generalize es[k] = e at hr hsm hsn
      have hll := congrArg List.length hsn
      simp only [List.length_append] at hll
      have h1 : (filesL (List.take k es)).length + (localL e.hdr).length + e.data.length ≤ 4611686018427387904 := by omega
      have HSN := Lib.hid hsn
      clear hsn hll hle
      generalize filesL (List.take k es) = acc at *
      go_wp2_with (first
          | (refine wpList_load_mid rfl 38 _ rfl b (off + k * 15) rfl e.cells _ hr Tryz.underlying38 rfl sizeEnt ?_)
          | (refine wpList_alloc_store 38 _ _ e.cells rfl rfl rfl rfl rfl rfl sizesEnt rfl ?_))
      simp only [Act.put, List.setIfInBounds_toArray, List.set_cons_succ, List.set_cons_zero]
      refine wp_region_below (by kernel_rfl) (by kernel_rfl) fun σ _ f hf hcell hmk => ?_
      simp only [World.size_alloc] at hcell
      repeat (go_big_quiet_step ((go_at_call 39; exact (local_any e.hdr _ hsm).mono fun e w'' ⟨he, hb⟩ => ⟨he, hmk _ _ hb⟩)))
      refine wpQuiet_nil ?_
      rintro _ ⟨x, rfl⟩
      go_wp2
      exact ⟨⟨k + 1, by go_num, by rw [HSN.out], by omega, below_up (hb.alloc hb.size _) (hf x)⟩, by simp [intOf]; omega⟩
    · obtain rfl : k = es.length := by omega
      go_wp2
      go_ret
      exact ⟨by rw [List.take_of_length_le (Nat.le_refl _)]; rfl, hb⟩

/-- The directory's headers: at_ is the place of the first one's local header. -/
def dirL : List E → Int → List UInt8
  | [], _ => []
  | e :: es, at_ => centralL e.hdr at_ ++ dirL es (wrap64 (at_ + ((localL e.hdr).length + e.data.length : Nat)))
def atL : List E → Int → Int
  | [], at_ => at_
  | e :: es, at_ => atL es (wrap64 (at_ + ((localL e.hdr).length + e.data.length : Nat)))
theorem dirL_append (a b : List E) : ∀ at_, dirL (a ++ b) at_ = dirL a at_ ++ dirL b (atL a at_) := by
  induction a with
  | nil => intro at_; rfl
  | cons e a ih => intro at_; simp [dirL, atL, ih]
theorem atL_append (a b : List E) : ∀ at_, atL (a ++ b) at_ = atL b (atL a at_) := by
  induction a with
  | nil => intro at_; rfl
  | cons e a ih => intro at_; simp [atL, ih]
theorem dirL_snoc (es : List E) (k : Nat) (h : k < es.length) : dirL (es.take (k + 1)) 0 = dirL (es.take k) 0 ++ centralL es[k].hdr (atL (es.take k) 0) := by
  rw [List.take_succ_eq_append_getElem h, dirL_append]; simp [dirL]
theorem atL_snoc (es : List E) (k : Nat) (h : k < es.length) : atL (es.take (k + 1)) 0 = wrap64 (atL (es.take k) 0 + ((localL es[k].hdr).length + es[k].data.length : Nat)) := by
  rw [List.take_succ_eq_append_getElem h, atL_append]; simp [atL]
theorem dirL_le (es : List E) (k : Nat) : (dirL (es.take k) 0).length ≤ (dirL es 0).length := by
  conv => rhs; rw [← List.take_append_drop k es, dirL_append]
  simp only [List.length_append]; omega

set_option maxRecDepth 100000 in
theorem directory_any (es : List E) (v : Value) (w : World) (hv : IsList w v es) (hlen : es.length ≤ 4611686018427387904) (hs : ∀ e ∈ es, Small e.hdr ∧ e.data.length ≤ 4611686018427387904) (hsz : (dirL es 0).length ≤ 4611686018427387904) :
    Calls Tryz.prog 30 #[v] w fun r w' => r = .returned (.string (B (dirL es 0))) ∧ Below w.heap.size w w' := by
  obtain ⟨a, cap, rfl, hl⟩ := hv
  have HS := Lib.hid hs
  clear hs
  go_enter Tryz.func30, Tryz.ntmps30
  go_wp2
  go_loopw [3, 4, 9] (fun t3 t4 t9 wr => ∃ k : Nat, t9 = .int .i64 k ∧ t3 = .string (B (dirL (es.take k) 0)) ∧ t4 = .int .i64 (atL (es.take k) 0) ∧ k ≤ es.length ∧ Below w.heap.size w wr) (fun _ _ t9 _ => es.length - (intOf t9).toNat)
  case atStart => exact ⟨0, rfl, rfl, rfl, Nat.zero_le _, Below.refl _ _⟩
  case round =>
    obtain ⟨k, rfl, rfl, rfl, hk, hb⟩ := hrel
    by_cases hlt : k < es.length
    · obtain ⟨b, off, rfl, hblt, hr⟩ := hl (fun e => by simp [e] at hlt)
      have hr := rangeAt_below hb (hr k es[k] (List.getElem?_eq_getElem hlt)) hblt
      obtain ⟨hsm, hdl⟩ := HS.out es[k] (List.getElem_mem hlt)
      have hle := dirL_le es (k + 1)
      have hsn := dirL_snoc es k hlt
      have han := atL_snoc es k hlt
      have hsz' := hb.size
      generalize es[k] = e at hr hsm hsn hdl han
      have hll := congrArg List.length hsn
      simp only [List.length_append] at hll
      have h1 : (dirL (List.take k es) 0).length + (centralL e.hdr (atL (List.take k es) 0)).length ≤ 4611686018427387904 := by omega
      have HSN := Lib.hid hsn
      have HAN := Lib.hid han
      clear hsn hll hle han
      have hlo : (localL e.hdr).length ≤ 4294967400 := by rw [length_localL]; have := hsm.name; have := hsm.extra; omega
      generalize dirL (List.take k es) 0 = acc at *
      generalize atL (List.take k es) 0 = at_ at *
      go_wp2_with (first
          | (refine wpList_load_mid rfl 38 _ rfl b (off + k * 15) rfl e.cells _ hr Tryz.underlying38 rfl sizeEnt ?_)
          | (refine wpList_alloc_store 38 _ _ e.cells rfl rfl rfl rfl rfl rfl sizesEnt rfl ?_)
          | (go_at_call 56; refine (central_any e.hdr _ _ hsm).mono ?_; rintro e w1 ⟨rfl, hb1⟩))
      have hc1 := bcell hb1
      simp only [World.size_alloc] at hc1
      have hsz1 : wr.heap.size < w1.heap.size := by have := hb1.size; simp at this; omega
      refine wp_region_below (by kernel_rfl) (by kernel_rfl) fun σ _ f hf hcell hmk => ?_
      repeat (go_big_quiet_step ((go_at_call 39; exact (local_any e.hdr _ hsm).mono fun e w'' ⟨he, hb⟩ => ⟨he, hmk _ _ hb⟩)))
      refine wpQuiet_nil ?_
      rintro _ ⟨x, rfl⟩
      go_wp2
      exact ⟨⟨k + 1, by go_num, by rw [HSN.out], by rw [HAN.out, Int.natCast_add], by omega, below_up (below_up (hb.alloc hb.size _) hb1) (hf x)⟩, by simp [intOf]; omega⟩
    · obtain rfl : k = es.length := by omega
      go_wp2
      go_ret
      exact ⟨by rw [List.take_of_length_le (Nat.le_refl _)]; rfl, hb⟩

def archiveL (es : List E) (c : List UInt8) : List UInt8 := filesL es ++ (dirL es 0 ++ endL es.length (dirL es 0).length (filesL es).length c)

set_option maxRecDepth 100000 in
theorem archive_any (es : List E) (c : List UInt8) (v : Value) (w : World) (hv : IsList w v es) (hlen : es.length ≤ 4611686018427387904) (hs : ∀ e ∈ es, Small e.hdr ∧ e.data.length ≤ 4611686018427387904)
    (hf : (filesL es).length ≤ 1152921504606846976) (hd : (dirL es 0).length ≤ 1152921504606846976) (hc : c.length ≤ 1152921504606846976) :
    Calls Tryz.prog 12 #[v, .string (B c)] w fun r w' => r = .returned (.string (B (archiveL es c))) ∧ Below w.heap.size w w' := by
  have HV := Lib.hid hv
  have HS := Lib.hid hs
  obtain ⟨a, cap, rfl, hl⟩ := hv
  clear hs hl
  go_enter Tryz.func12, Tryz.ntmps12
  go_wp2_with fail
  refine (files_any es _ w HV.out hlen (fun e he => (HS.out e he).1) (by omega)).mono ?_
  rintro r w1 ⟨rfl, hb1⟩
  go_wp2_with fail
  refine (directory_any es _ w1 (HV.out.below hb1) hlen HS.out (by omega)).mono ?_
  rintro r w2 ⟨rfl, hb2⟩
  go_wp2_with fail
  refine (end_any _ _ _ _ _ (by omega)).mono ?_
  rintro r w3 ⟨rfl, hb3⟩
  have hle := length_endL es.length (dirL es 0).length (filesL es).length c
  go_wp2
  go_ret
  exact ⟨rfl, below_up (below_up hb1 hb2) hb3⟩

def sigEnd : List UInt8 := [80, 75, 5, 6]
/-- How many times the beginning of an archive's end stands in a text. -/
def endsL : List UInt8 → Nat
  | [] => 0
  | x :: l => (if (x :: l).take 4 = sigEnd then 1 else 0) + endsL l
theorem endsL_short {l : List UInt8} (h : l.length < 4) : endsL l = 0 := by
  induction l with
  | nil => rfl
  | cons x l ih =>
    unfold endsL
    rw [ih (by simp at h; omega), if_neg]
    intro e
    have := congrArg List.length e
    simp [sigEnd] at this h; omega
theorem endsL_le (l : List UInt8) : endsL l ≤ l.length := by
  induction l with
  | nil => exact Nat.le_refl _
  | cons x l ih => unfold endsL; split <;> simp <;> omega
theorem endsL_drop (l : List UInt8) (k : Nat) (h : k < l.length) : endsL (l.drop k) = (if (l.drop k).take 4 = sigEnd then 1 else 0) + endsL (l.drop (k + 1)) := by
  conv => lhs; rw [List.drop_eq_getElem_cons h]
  rw [endsL, ← List.drop_eq_getElem_cons h]

set_option maxRecDepth 100000 in
theorem ends_any (l : List UInt8) (w : World) (hl : l.length ≤ 4611686018427387904) : Calls Tryz.prog 21 #[.string (B l)] w fun r w' => r = .returned (.int .i64 (endsL l)) ∧ w = w' := by
  go_enter Tryz.func21, Tryz.ntmps21
  go_wp2
  go_loop [3, 4] (fun t3 t4 => ∃ k n : Nat, t4 = .int .i64 k ∧ t3 = .int .i64 n ∧ k ≤ l.length ∧ n ≤ k ∧ Hid (n + endsL (l.drop k) = endsL l)) (fun _ t4 => l.length - (intOf t4).toNat)
  case atStart => exact ⟨0, 0, rfl, rfl, Nat.zero_le _, Nat.le_refl _, by show _ = _; simp⟩
  case round =>
    obtain ⟨k, n, rfl, rfl, hk, hn, he⟩ := hrel
    by_cases hlt : k + 4 ≤ l.length
    · go_wp2
      · have h4 : (List.take 4 (List.drop k l) == [80, 75, 5, 6]) = true := ‹_›
        refine ⟨⟨k + 1, n + 1, by go_num, by go_num, by omega, by omega, ?_⟩, by simp [intOf]; omega⟩
        have := endsL_drop l k (by omega)
        rw [if_pos (by simpa [sigEnd] using h4)] at this
        show _ = _; rw [← he.out, this]; omega
      · have h4 : (List.take 4 (List.drop k l) == [80, 75, 5, 6]) = false := ‹_›
        refine ⟨⟨k + 1, n, by go_num, rfl, by omega, by omega, ?_⟩, by simp [intOf]; omega⟩
        have := endsL_drop l k (by omega)
        rw [if_neg (by simpa [sigEnd] using h4)] at this
        show _ = _; rw [← he.out, this]; omega
    · go_wp2
      go_ret
      have h0 : endsL (l.drop k) = 0 := endsL_short (by simp; omega)
      have := he.out
      exact ⟨by rw [← this, h0]; rfl, rfl⟩

/-- What a good entry is. -/
def entryOk (e : E) : Bool := headerOk e.hdr && decide (e.data.length ≤ 1048576)
def goodB (es : List E) (c : List UInt8) : Bool := es.all entryOk && decide (es.length ≤ 1000) && decide (c.length ≤ 65535) && (endsL (archiveL es c) == 1)
theorem goodB_not {es : List E} {c : List UInt8} {k : Nat} {hk : k < es.length} {e : E} (he : es[k] = e) (hn : entryOk e = false) : goodB es c = false := by
  have : es.all entryOk = false := by rw [List.all_eq_false]; exact ⟨e, by rw [← he]; exact List.getElem_mem hk, by simp [hn]⟩
  simp [goodB, this]
theorem headerOk_small {h : H} (hh : headerOk h = true) : h.name.length ≤ 60000 ∧ h.comment.length ≤ 60000 ∧ h.extra.length ≤ 60000 := by
  simp [headerOk] at hh; omega
theorem entryOk_small {e : E} (h : entryOk e = true) : Small e.hdr ∧ e.data.length ≤ 1048576 := by
  simp only [entryOk, Bool.and_eq_true, decide_eq_true_eq] at h
  have := headerOk_small h.1
  exact ⟨⟨by omega, by omega, by omega⟩, h.2⟩
theorem filesL_ok {es : List E} (h : es.all entryOk = true) : (filesL es).length ≤ es.length * 1168606 := by
  induction es with
  | nil => simp [filesL]
  | cons e es ih =>
    simp only [List.all_cons, Bool.and_eq_true] at h
    have ih := ih h.2
    have h1 := h.1
    simp only [entryOk, Bool.and_eq_true, decide_eq_true_eq] at h1
    have := headerOk_small h1.1
    have hl := length_localL e.hdr
    have e1 : filesL (e :: es) = (localL e.hdr ++ e.data) ++ filesL es := by simp [filesL]
    rw [e1, List.length_append, List.length_append, List.length_cons, Nat.add_mul]; omega
theorem dirL_ok {es : List E} (h : es.all entryOk = true) : ∀ a, (dirL es a).length ≤ es.length * 180046 := by
  induction es with
  | nil => intro a; simp [dirL]
  | cons e es ih =>
    intro a
    simp only [List.all_cons, Bool.and_eq_true] at h
    have ih := ih h.2 (wrap64 (a + ((localL e.hdr).length + e.data.length : Nat)))
    have h1 := h.1
    simp only [entryOk, Bool.and_eq_true, decide_eq_true_eq] at h1
    have := headerOk_small h1.1
    have hl := length_centralL e.hdr a
    rw [dirL, List.length_append, List.length_cons, Nat.add_mul]; omega

set_option maxRecDepth 100000 in
theorem good_any (es : List E) (c : List UInt8) (v : Value) (w : World) (hv : IsList w v es) (hlen : es.length ≤ 4611686018427387904) (hc : c.length ≤ 1152921504606846976) :
    Calls Tryz.prog 11 #[v, .string (B c)] w fun r w' => r = .returned (.bool (goodB es c)) ∧ Below w.heap.size w w' := by
  have HV := Lib.hid hv
  obtain ⟨a, cap, rfl, hl⟩ := hv
  go_enter Tryz.func11, Tryz.ntmps11
  go_wp2
  go_loopw [9] (fun t9 wr => ∃ k : Nat, t9 = .int .i64 k ∧ k ≤ es.length ∧ Hid ((es.take k).all entryOk = true) ∧ Below w.heap.size w wr) (fun t9 _ => es.length - (intOf t9).toNat)
  case atStart => exact ⟨0, rfl, Nat.zero_le _, rfl, Below.refl _ _⟩
  case round =>
    obtain ⟨k, rfl, hk, hall, hb⟩ := hrel
    by_cases hlt : k < es.length
    · obtain ⟨b, off, rfl, hblt, hr⟩ := hl (fun e => by simp [e] at hlt)
      have hr := rangeAt_below hb (hr k es[k] (List.getElem?_eq_getElem hlt)) hblt
      have hsz := hb.size
      generalize he : es[k] = e at hr
      have He := Lib.hid he
      clear he
      go_wp2_with (first
        | (refine wpList_load_mid rfl 38 _ rfl b (off + k * 15) rfl e.cells _ hr Tryz.underlying38 rfl sizeEnt ?_)
        | (refine wpList_alloc_store 38 _ _ e.cells rfl rfl rfl rfl rfl rfl sizesEnt rfl ?_)
        | (refine wpList_load_mid rfl 36 _ rfl wr.heap.size 0 rfl e.hdr.cells _ (rangeAt_part (n := 0) (rangeAt_new _ _ _) rfl) Tryz.underlying36 rfl sizeHdr ?_)
        | (go_at_call 25; refine (headerOk_any e.hdr _).mono ?_; rintro r w1 ⟨rfl, hb1⟩; have hc1 := bcell hb1; simp only [World.size_alloc] at hc1))
      · have hf : ¬ e.data.length ≤ 1048576 := by omega
        go_ret
        exact ⟨by rw [goodB_not He.out (by simp [entryOk, hf])]; rfl, below_up (hb.alloc hb.size _) hb1⟩
      · have hh : headerOk e.hdr = true := ‹_›
        refine ⟨⟨k + 1, by go_num, by omega, ?_, below_up (hb.alloc hb.size _) hb1⟩, by simp [intOf]; omega⟩
        show _ = _
        rw [List.take_succ_eq_append_getElem hlt, List.all_append, hall.out, He.out]; simp [entryOk, hh]; omega
      · have hf : ¬ headerOk e.hdr = true := ‹_›
        go_ret
        exact ⟨by rw [goodB_not He.out (by simp [entryOk, hf])]; rfl, below_up (hb.alloc hb.size _) hb1⟩
    · obtain rfl : k = es.length := by omega
      have hall' := hall.out
      rw [List.take_of_length_le (Nat.le_refl _)] at hall'
      have HA := Lib.hid hall'
      have hsz := hb.size
      clear hall' hall hlt hk
      by_cases h1 : es.length ≤ 1000
      · by_cases h2 : c.length ≤ 65535
        · have hfl := filesL_ok HA.out
          have hdl := dirL_ok HA.out 0
          have hal : (archiveL es c).length ≤ 4611686018427387904 := by simp only [archiveL, List.length_append, length_endL]; omega
          go_wp2_with (first
            | (go_at_call 12; refine (archive_any es c _ _ (HV.out.below hb) hlen (fun e he => ⟨(entryOk_small (List.all_eq_true.1 HA.out e he)).1, Nat.le_trans (entryOk_small (List.all_eq_true.1 HA.out e he)).2 (by omega)⟩) (by omega) (by omega) (by omega)).mono ?_; rintro r w1 ⟨rfl, hb1⟩)
            | (go_at_call 21; refine (ends_any _ _ hal).mono ?_; rintro r w2 ⟨rfl, rfl⟩))
          go_ret
          refine ⟨congrArg (fun b => Ending.returned (Value.bool b)) ?_, below_up hb hb1⟩
          rw [Bool.eq_iff_iff]; simp [goodB, HA.out, h1, h2]; omega
        · go_wp2
          go_ret
          exact ⟨by show Ending.returned (Value.bool false) = _; simp [goodB, h2], hb⟩
      · go_wp2
        go_ret
        exact ⟨by show Ending.returned (Value.bool false) = _; simp [goodB, h1], hb⟩
end Go.Proofs.Zip
