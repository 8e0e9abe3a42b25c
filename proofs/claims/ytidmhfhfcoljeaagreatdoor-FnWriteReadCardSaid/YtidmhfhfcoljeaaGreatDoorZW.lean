/- A part of a proof over the given program: Bld, Bw. Nothing is assumed here. -/
import Derived.Test.YtidmhfhfcoljeaaGreatDoorZA
import Derived.Lib.Builder
import Derived.Deep.DeepCutAuto
import Derived.StillTailTactics
namespace Go.Proofs.Zip
open Go Go.RowKit
/-! A strings.Builder that is written into. -/
theorem sizeBld : (Tryz.prog.info? 95).map (·.size) = some 2 := by kernel_rfl
theorem liesBld : liesAt Tryz.prog Tryz.prog.depth 95 (2 / Tryz.prog.cellsOf 95) 0 95 1 = true := by kernel_rfl
/-- A builder at b that holds L; ob: the block of its bytes. -/
def Bld (w : World) (base b : Nat) (L : List UInt8) (ob : Option Nat) : Prop :=
  ∃ adr v, Blk w b #[adr, v] 95 ∧ (adr = .pointer none ∨ adr = .pointer (some ⟨b, 0, none⟩)) ∧ w.ownsRow base 5 1 v L.length (u8s L) ∧ v.ownBlock = ob ∧ ob ≠ some b
theorem Bld.fr {S : Nat → Prop} {w w' : World} {base b : Nat} {L : List UInt8} {ob : Option Nat} (h : Bld w base b L ob) (hf : Fr S w w') (h1 : ¬ S b) (h2 : ∀ x, S x → some x ≠ ob) : Bld w' base b L ob := by
  obtain ⟨adr, v, hb, ha, ho, rfl, hne⟩ := h
  exact ⟨adr, v, hf.blk hb h1, ha, ownsRow_fr ho hf (fun x hx e => h2 x hx e), rfl, hne⟩
theorem Bld.lt {w : World} {base b : Nat} {L : List UInt8} {ob : Option Nat} (h : Bld w base b L ob) : b < w.heap.size := by
  obtain ⟨adr, v, hb, _⟩ := h
  exact hb.lt
theorem Bld.ob_lt {w : World} {base b : Nat} {L : List UInt8} {ob : Option Nat} (h : Bld w base b L ob) : ∀ x, ob = some x → base ≤ x ∧ x < w.heap.size := by
  obtain ⟨adr, v, hb, ha, ho, rfl, hne⟩ := h
  intro x hx
  exact ho.lt x hx
set_option maxRecDepth 100000 in
theorem copyCheck_any (b : Nat) (adr v : Value) (w : World) (h : Blk w b #[adr, v] 95) (ha : adr = .pointer none ∨ adr = .pointer (some ⟨b, 0, none⟩)) :
    Calls Tryz.prog 192 #[.pointer (some ⟨b, 0, none⟩)] w fun e w' => e = .returned (.tuple #[]) ∧ Blk w' b #[.pointer (some ⟨b, 0, none⟩), v] 95 ∧ Fr (· = b) w w' := by
  obtain ⟨j, hj, hjs⟩ := Option.map_eq_some_iff.1 sizeBld
  have hsh : w.shape? b = some (95, 2) := by unfold World.shape?; rw [h]; rfl
  have c0 : w.cell? ⟨b, 0, none⟩ = some adr := h.cell 0
  have f0 : w.frozen? ⟨b, 0, none⟩ = false := h.frozen 0
  rcases ha with rfl | rfl
  · go_enter Tryz.func192, Tryz.ntmps192
    go_wp2
    rw [Lib.run_to_unsafe w ⟨b, 0, none⟩ Tryz.underlying93 Tryz.underlying331 hj (by rw [hjs]; decide) hsh (Nat.zero_lt_succ 1)]
    simp only [Result.andThen]
    rw [Oper.upon_value]
    go_wp2
    rw [run_callFunc_extern Tryz.func193 (by kernel_rfl) (by kernel_rfl) (by kernel_rfl) (e := Extern.AbiNoEscape.same) (by kernel_rfl)]
    rw [Lib.run_noEscape]
    simp only [Result.andThen]
    rw [Oper.upon_value]
    go_wp2
    rw [Lib.run_from_unsafe w ⟨b, 0, none⟩ Tryz.underlying331 Tryz.underlying93 hj hsh liesBld]
    simp only [Result.andThen]
    rw [Oper.upon_value]
    go_wp2
    go_end0
    exact ⟨rfl, h.set 0 _, (Fr.refl (· = b) w).setCell (fun _ => rfl) _⟩
  · go_enter Tryz.func192, Tryz.ntmps192
    go_wp2
    rw [Lib.run_neq_ptr_same w _ Tryz.underlying93 hj]
    go_wp2
    go_end0
    exact ⟨rfl, h, Fr.refl _ _⟩
/-- 'append(out, p...)' of bytes that lie in a row from a place on. -/
theorem wpList_app_bytes_at {w : World} {ops : Array Oper} {rest : List Oper} {o : Oper} {a : Act} {Q : Exit → Act → World → Prop} (hgd : o.guard = none) (s x : Operand)
    (ho : o.op = .call { callee := .builtin .append, args := #[s, x], argTypes := #[76, 76] }) (base : Nat) (v : Value) (l : List UInt8) (hs : a.eval s = v) (hown : w.ownsRow base 5 1 v l.length (u8s l))
    (g off m c : Nat) (M : List UInt8) (hx : a.eval x = .slice (some ⟨g, off, none⟩) m c) (hm : M.length = m) (hM : w.rangeAt g off (u8s M)) (hn : l.length + m ≤ 140737488355328) (hbase : base ≤ w.heap.size)
    (h : ∀ v' w', w'.ownsRow base 5 1 v' (l ++ M).length (u8s (l ++ M)) → Fr (fun b => some b = v.ownBlock) w w' → (v'.ownBlock = v.ownBlock ∨ v'.ownBlock = some w.heap.size) → wpList Tryz.prog ops Q rest (a.put o.dst v') w') : wpList Tryz.prog ops Q (o :: rest) a w := by
  obtain ⟨i0, hi, hz0, hz1, hz2⟩ := info_parts infoU8
  refine wpList_append_own_at w hgd s x 76 ho base 5 i0 _ 1 1 Tryz.underlying76 hi hz0 hz1 hz2 rfl (by decide) v l.length (u8s l) hs hown ⟨g, off, none⟩ m c (u8s M) hx (by simp [hm]) ?_ (u8s_one M) (by unfold maxLen; omega) (by omega) hbase ?_
  · intro j u hj
    rw [add_at]
    exact hM j u hj
  · intro v' w' h1 h2 _ h3
    refine h v' w' ?_ (Fr.of_grown h2) h3
    rw [u8s_append, List.length_append, hm]; exact h1
set_option maxRecDepth 100000 in
set_option maxHeartbeats 1000000 in
theorem bldWrite_any (base b g o cap : Nat) (L M : List UInt8) (ob : Option Nat) (w : World) (h : Bld w base b L ob) (hM : w.rangeAt g o (u8s M)) (hgl : g < w.heap.size) (hgb : g ≠ b) (hlen : L.length + M.length ≤ 140737488355328) (hbase : base ≤ w.heap.size) :
    Calls Tryz.prog 190 #[.pointer (some ⟨b, 0, none⟩), .slice (some ⟨g, o, none⟩) M.length cap] w fun e w' => e = .returned (.tuple #[.int .i64 M.length, .nilIface]) ∧ ∃ ob', Bld w' base b (L ++ M) ob' ∧ (ob' = ob ∨ ∃ x, ob' = some x ∧ w.heap.size ≤ x) ∧ Fr (fun x => x = b ∨ some x = ob) w w' := by
  obtain ⟨adr, v, hb, ha, ho, hob, hne⟩ := h
  subst hob
  go_enter Tryz.func190, Tryz.ntmps190
  have HC := Lib.hid (copyCheck_any b adr v w hb ha)
  have HO := Lib.hid ho
  have HM := Lib.hid hM
  clear hb ha ho hM
  go_wp2_with fail
  refine HC.out.mono ?_
  rintro e w1 ⟨rfl, hb1, hf1⟩
  have ho1 : w1.ownsRow base 5 1 v L.length (u8s L) := ownsRow_fr HO.out hf1 (fun x hx e => hne (by rw [← e, hx]))
  have hM1 : w1.rangeAt g o (u8s M) := fun j u hj => by rw [hf1.cell hgl hgb]; exact HM.out j u hj
  have c1 : w1.cell? ⟨b, 1, none⟩ = some v := hb1.cell 1
  have hs1 := hf1.size
  have HB1 := Lib.hid hb1
  have HF1 := Lib.hid hf1
  clear hb1 hf1 HC HO HM
  go_wp2_with (at_builtin; refine wpList_app_bytes_at rfl _ _ rfl base v L rfl ho1 g o M.length cap M rfl rfl hM1 hlen (by omega) ?_)
  intro v' w2 hown' hfr' hob'
  obtain ⟨n, hn⟩ : ∃ n, n = (L ++ M).length := ⟨_, rfl⟩
  have hn2 : L.length + M.length = n := by rw [hn, List.length_append]
  have hown' : w2.ownsRow base 5 1 v' n (u8s (L ++ M)) := by rw [← hn2]; simpa using hown'
  obtain ⟨vx, vcap, hvf⟩ := own_form hown'
  subst hvf
  have HN := Lib.hid hn
  clear hn hn2
  have hblt := HB1.out.lt
  have hb2 : Blk w2 b #[.pointer (some ⟨b, 0, none⟩), v] 95 := hfr'.blk HB1.out (fun e => hne e.symm)
  have f1 : w2.frozen? ⟨b, 1, none⟩ = false := hb2.frozen 1
  have d1 : w2.cell? ⟨b, 1, none⟩ = some v := hb2.cell 1
  have HB2 := Lib.hid hb2
  have HO2 := Lib.hid hown'
  have HFR := Lib.hid hfr'
  clear hb2 hown' hfr' c1
  go_wp2
  go_ret2
  refine ⟨rfl, (Value.slice vx n vcap).ownBlock, ⟨.pointer (some ⟨b, 0, none⟩), .slice vx n vcap, HB2.out.set 1 _, .inr rfl, ?_, rfl, ?_⟩, ?_, ?_⟩
  · rw [← HN.out]
    refine ownsRow_fr HO2.out ((Fr.refl (· = b) w2).setCell (fun _ => rfl) _) ?_
    rintro x rfl e
    rcases hob' with h | h
    · exact hne (by rw [← h, ← e])
    · rw [h] at e; cases e; omega
  · intro e
    rcases hob' with h | h
    · exact hne (by rw [← h, e])
    · rw [h] at e; cases e; omega
  · rcases hob' with h | h
    · exact .inl h
    · exact .inr ⟨_, h, hs1⟩
  · refine Fr.setCell ?_ (fun _ => .inl rfl) _
    refine HF1.out.trans2 HFR.out (fun _ h => .inl h) (fun _ h => .inr h)
end Go.Proofs.Zip
namespace Go.Proofs.Zip
open Go Go.RowKit
/-! A bufio.Writer over a strings.Builder, and a countWriter over that. -/
/-- The blocks of an output: builder, buffered writer, its buffer, counting writer. -/
structure Wr where
  sb : Nat
  bw : Nat
  bb : Nat
  cw : Nat
  base : Nat
structure Wr.Ok (O : Wr) : Prop where
  d1 : O.sb ≠ O.bw
  d2 : O.sb ≠ O.bb
  d3 : O.sb ≠ O.cw
  d4 : O.bw ≠ O.bb
  d5 : O.bw ≠ O.cw
  d6 : O.bb ≠ O.cw
  n1 : O.base ≤ O.sb
  n2 : O.base ≤ O.bw
  n3 : O.base ≤ O.bb
  n4 : O.base ≤ O.cw
abbrev sbv (O : Wr) : Value := .iface 93 (.pointer (some ⟨O.sb, 0, none⟩))
abbrev bwv (O : Wr) : Value := .iface 127 (.pointer (some ⟨O.bw, 0, none⟩))
abbrev bwCells (O : Wr) (n : Nat) : Array Value := #[.nilIface, .slice (some ⟨O.bb, 0, none⟩) 4096 4096, .int .i64 n, sbv O]
/-- L1 lies in the builder, L2 in the buffer. -/
structure Wbf (w : World) (O : Wr) (L1 L2 : List UInt8) (cur : Array Value) (ob : Option Nat) : Prop where
  bld : Bld w O.base O.sb L1 ob
  bw : Blk w O.bw (bwCells O L2.length) 240
  bb : Blk w O.bb (put cur 0 L2) 5
  cur : cur.size = 4096
  len : L2.length ≤ 4096
  o1 : ob ≠ some O.bw
  o2 : ob ≠ some O.bb
/-- The blocks that a write turns. -/
def Wr.turns (O : Wr) (ob : Option Nat) (b : Nat) : Prop := b = O.sb ∨ b = O.bw ∨ b = O.bb ∨ some b = ob
theorem Wbf.fr {S : Nat → Prop} {w w' : World} {O : Wr} {L1 L2 : List UInt8} {cur : Array Value} {ob : Option Nat} (h : Wbf w O L1 L2 cur ob) (hf : Fr S w w') (hS : ∀ x, O.turns ob x → ¬ S x) : Wbf w' O L1 L2 cur ob :=
  ⟨h.bld.fr hf (hS _ (.inl rfl)) (fun x hx e => hS x (.inr (.inr (.inr e))) hx), hf.blk h.bw (hS _ (.inr (.inl rfl))), hf.blk h.bb (hS _ (.inr (.inr (.inl rfl)))), h.cur, h.len, h.o1, h.o2⟩
/-- The block of the bytes behind a write. -/
def obNext (ob ob' : Option Nat) (n : Nat) : Prop := ob' = ob ∨ ∃ x, ob' = some x ∧ n ≤ x
theorem obNext.trans {a b c : Option Nat} {n m : Nat} (h1 : obNext a b n) (h2 : obNext b c m) (hm : n ≤ m) : obNext a c n := by
  rcases h2 with rfl | ⟨x, rfl, hx⟩
  · exact h1
  · exact .inr ⟨x, rfl, by omega⟩
theorem obNext.ne {a b : Option Nat} {n x : Nat} (h : obNext a b n) (h1 : a ≠ some x) (h2 : x < n) : b ≠ some x := by
  rcases h with rfl | ⟨y, rfl, hy⟩
  · exact h1
  · intro e; cases e; omega
/-- A frame over writes, one behind the other. -/
theorem Fr.turns {w w1 w2 : World} {O : Wr} {a b : Option Nat} (h1 : Fr (O.turns a) w w1) (h2 : Fr (O.turns b) w1 w2) (hn : obNext a b w.heap.size) : Fr (O.turns a) w w2 :=
  h1.trans h2 fun i hi hT => by
    rcases hT with h | h | h | h
    · exact .inl h
    · exact .inr (.inl h)
    · exact .inr (.inr (.inl h))
    · rcases hn with rfl | ⟨x, rfl, hx⟩
      · exact .inr (.inr (.inr h))
      · cases h; omega
theorem put0_rng (cur : Array Value) (M : List UInt8) (h : M.length ≤ cur.size) : ((put cur 0 M).toList.drop 0).take (u8s M).length = u8s M := by
  have := put_range cur 0 M (by omega)
  rw [length_u8s]; exact this
theorem put_app (cur : Array Value) (a b : List UInt8) (h : a.length + b.length ≤ cur.size) : put (put cur 0 a) a.length b = put cur 0 (a ++ b) := by
  have := put_put cur 0 a b (by omega)
  rw [Nat.zero_add] at this
  exact this
theorem nilAhead_sb (n a : Nat) (w : World) : (nilAhead (n + 1) 93 (.pointer (some ⟨a, 0, none⟩)) "Write").run Tryz.prog w = .ok (some false) w := by kernel_rfl
set_option maxRecDepth 100000 in
set_option maxHeartbeats 1000000 in
/-- Flush: all lies in the builder. -/
theorem flush_any (O : Wr) (hO : O.Ok) (L1 L2 : List UInt8) (cur : Array Value) (ob : Option Nat) (w : World) (h : Wbf w O L1 L2 cur ob) (hlen : L1.length + L2.length ≤ 140737488355328) (hbase : O.base ≤ w.heap.size) :
    Calls Tryz.prog 96 #[.pointer (some ⟨O.bw, 0, none⟩)] w fun e w' => e = .returned .nilIface ∧ ∃ ob' cur', Wbf w' O (L1 ++ L2) [] cur' ob' ∧ obNext ob ob' w.heap.size ∧ Fr (O.turns ob) w w' := by
  go_enter Tryz.func96, Tryz.ntmps96
  have c0 : w.cell? ⟨O.bw, 0, none⟩ = some .nilIface := h.bw.cell 0
  have c1 : w.cell? ⟨O.bw, 1, none⟩ = some (.slice (some ⟨O.bb, 0, none⟩) 4096 4096) := h.bw.cell 1
  have c2 : w.cell? ⟨O.bw, 2, none⟩ = some (.int .i64 L2.length) := h.bw.cell 2
  have c3 : w.cell? ⟨O.bw, 3, none⟩ = some (sbv O) := h.bw.cell 3
  have hl2 := h.len
  by_cases h0 : L2.length = 0
  · obtain rfl : L2 = [] := List.eq_nil_of_length_eq_zero h0
    have HH := Lib.hid h
    clear h h0
    go_wp2
    go_ret
    exact ⟨rfl, ob, cur, by rw [List.append_nil]; exact HH.out, .inl rfl, Fr.refl _ _⟩
  · have h0' : ((L2.length : Int) == 0) = false := by rw [beq_eq_false_iff_ne]; omega
    have HW : Hid (∀ w', Fr (fun _ => False) w w' → Calls Tryz.prog 190 #[.pointer (some ⟨O.sb, 0, none⟩), .slice (some ⟨O.bb, 0, none⟩) L2.length 4096] w' fun e w'' => e = .returned (.tuple #[.int .i64 L2.length, .nilIface]) ∧ ∃ ob', Hid (Bld w'' O.base O.sb (L1 ++ L2) ob' ∧ obNext ob ob' w.heap.size ∧ Fr (fun x => x = O.sb ∨ some x = ob) w w'')) := Lib.hid fun w' hw' => by
      refine (bldWrite_any O.base O.sb O.bb 0 4096 L1 L2 ob w' (h.bld.fr hw' id (fun _ h => h.elim)) ((hw'.blk h.bb id).range (put0_rng cur L2 (by rw [h.cur]; exact hl2))) (hw'.blk h.bb id).lt hO.d2.symm hlen (Nat.le_trans hbase hw'.size)).mono ?_
      rintro e w'' ⟨rfl, ob', h1, h2, h3⟩
      refine ⟨rfl, ob', Lib.hid ⟨h1, ?_, hw'.trans2 h3 (U := fun x => x = O.sb ∨ some x = ob) (fun _ h => h.elim) (fun _ h => h)⟩⟩
      rcases h2 with h2 | ⟨x, h2, h4⟩
      · exact .inl h2
      · exact .inr ⟨x, h2, Nat.le_trans hw'.size h4⟩
    have hna := fun n w => nilAhead_sb n O.sb w
    have HH := Lib.hid h
    clear h
    go_upto_region 5 with fail
    go_region_with (go_at_call 190; refine (HW.out _ ?hh).mono ?_; (case hh => exact (Fr.refl _ _).drew); rintro e w1 ⟨rfl, ob', h1⟩)
    all_goals (
      obtain ⟨hb1, hob, hf1⟩ := h1.out
      have hw1 : Blk w1 O.bw (bwCells O L2.length) 240 := hf1.blk HH.out.bw (by
        rintro (e | e)
        · exact hO.d1 e.symm
        · exact HH.out.o1 e.symm)
      have hbb1 : Blk w1 O.bb (put cur 0 L2) 5 := hf1.blk HH.out.bb (by
        rintro (e | e)
        · exact hO.d2 e.symm
        · exact HH.out.o2 e.symm)
      have d2 : w1.cell? ⟨O.bw, 2, none⟩ = some (.int .i64 L2.length) := hw1.cell 2
      have f2 : w1.frozen? ⟨O.bw, 2, none⟩ = false := hw1.frozen 2
      have hbwl := HH.out.bw.lt
      have hbbl := HH.out.bb.lt
      have FIN : Hid (Wbf (w1.setCell ⟨O.bw, 2, none⟩ (.int .i64 0)) O (L1 ++ L2) [] (put cur 0 L2) ob' ∧ obNext ob ob' w.heap.size ∧ Fr (O.turns ob) w (w1.setCell ⟨O.bw, 2, none⟩ (.int .i64 0))) := Lib.hid ⟨⟨hb1.fr ((Fr.refl (· = O.bw) w1).setCell (fun _ => rfl) _) hO.d1 (fun x hx => by rw [hx]; exact (hob.ne HH.out.o1 hbwl).symm), hw1.set 2 _, by rw [put_nil]; exact hbb1.set_ne hO.d4.symm _, by rw [size_put _ _ _ (by rw [HH.out.cur]; omega)]; exact HH.out.cur, by simp, hob.ne HH.out.o1 hbwl, hob.ne HH.out.o2 hbbl⟩, hob,
        (hf1.mono (fun i _ hh => hh.elim .inl (fun e => .inr (.inr (.inr e))))).setCell (fun _ => .inr (.inl rfl)) _⟩
      clear hb1 hob hf1 hw1 hbb1 HW h1
      go_wp2
      go_ret
      exact ⟨rfl, ob', _, FIN.out⟩)
/-- L was written. -/
def Out (w : World) (O : Wr) (L : List UInt8) (ob : Option Nat) : Prop := ∃ L1 L2 cur, L = L1 ++ L2 ∧ Wbf w O L1 L2 cur ob
theorem Out.fr {S : Nat → Prop} {w w' : World} {O : Wr} {L : List UInt8} {ob : Option Nat} (h : Out w O L ob) (hf : Fr S w w') (hS : ∀ x, O.turns ob x → ¬ S x) : Out w' O L ob := by
  obtain ⟨L1, L2, cur, e, h⟩ := h
  exact ⟨L1, L2, cur, e, h.fr hf hS⟩
theorem Out.lts {w : World} {O : Wr} {L : List UInt8} {ob : Option Nat} (h : Out w O L ob) : O.sb < w.heap.size ∧ O.bw < w.heap.size ∧ O.bb < w.heap.size := by
  obtain ⟨L1, L2, cur, e, h⟩ := h
  exact ⟨h.bld.lt, h.bw.lt, h.bb.lt⟩
/-- What is left to write, for the loop of Write. -/
def leftW (O : Wr) (v : Value) (w : World) : Nat := 2 * lenOfV v + (match w.cell? ⟨O.bw, 2, none⟩ with | some (.int _ 0) => 0 | _ => 1)
theorem leftW_buf {w : World} {O : Wr} {L1 L2 : List UInt8} {cur : Array Value} {ob : Option Nat} (h : Wbf w O L1 L2 cur ob) (v : Value) : leftW O v w = 2 * lenOfV v + (if L2 = [] then 0 else 1) := by
  unfold leftW
  have : w.cell? ⟨O.bw, 2, none⟩ = some (.int .i64 L2.length) := h.bw.cell 2
  rw [this]
  cases L2 with
  | nil => rfl
  | cons x l =>
    rw [if_neg (by simp)]
    congr 1
end Go.Proofs.Zip
