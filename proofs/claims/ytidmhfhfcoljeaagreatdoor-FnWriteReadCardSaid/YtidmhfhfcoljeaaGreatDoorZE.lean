/- A part of a proof over the given program: Full, NewBuf, Rb. Nothing is assumed here. -/
import Derived.Test.YtidmhfhfcoljeaaGreatDoorZD
import Derived.Deep.DeepCutAuto
import Derived.Test.YtidmhfhfcoljeaaGreatDoorZC
namespace Go.Proofs.Zip
open Go Go.RowKit
/-- The buffered reader as an io.Reader. -/
abbrev bufv (b : Nat) : Value := .iface 189 (.pointer (some ⟨b, 0, none⟩))
/-- An error variable that lies, with its error, among the first N0 blocks. -/
structure SenL (w : World) (N0 g : Nat) (e : Addr) : Prop where
  sen : Sen w g e
  lt0 : g < N0
  elt0 : e.block < N0
theorem SenL.fr {S : Nat → Prop} {w w' : World} {N0 g : Nat} {e : Addr} (h : SenL w N0 g e) (f : Fr S w w') (hS : ∀ b, S b → N0 ≤ b) : SenL w' N0 g e :=
  ⟨h.sen.fr f (fun k => Nat.not_lt_of_le (hS _ k) h.lt0) (fun k => Nat.not_lt_of_le (hS _ k) h.elt0), h.lt0, h.elt0⟩
theorem eql_same (e : Addr) (w : World) : (binOp .eql 56 (errv e) (errv e)).run Tryz.prog w = .ok (.bool true) w := by
  cases hi : Tryz.prog.info? 180 with
  | none => exact absurd hi (by have : (Tryz.prog.info? 180).isSome = true := by kernel_rfl
                                intro h; simp [h] at this)
  | some i =>
    cases hj : Tryz.prog.info? 182 with
    | none => exact absurd hj (by have : (Tryz.prog.info? 182).isSome = true := by kernel_rfl
                                  intro h; simp [h] at this)
    | some j =>
      have hc : (Tryz.prog.info? 180).map (·.comparable) = some true := by kernel_rfl
      rw [hi] at hc
      exact run_eql_iface_ptr_same w e Tryz.underlying56 Tryz.underlying180 hi (by simpa using hc) hj
theorem eql_other {a b : Addr} {w : World} {ga gb : Nat} (ha : Sen w ga a) (hb : Sen w gb b) (hne : a ≠ b) : (binOp .eql 56 (errv a) (errv b)).run Tryz.prog w = .ok (.bool false) w := by
  cases hi : Tryz.prog.info? 180 with
  | none => exact absurd hi (by have : (Tryz.prog.info? 180).isSome = true := by kernel_rfl
                                intro h; simp [h] at this)
  | some i =>
    cases hj : Tryz.prog.info? 182 with
    | none => exact absurd hj (by have : (Tryz.prog.info? 182).isSome = true := by kernel_rfl
                                  intro h; simp [h] at this)
    | some j =>
      have hc : (Tryz.prog.info? 180).map (·.comparable) = some true := by kernel_rfl
      have hz : (Tryz.prog.info? 182).map (·.size) = some 1 := by kernel_rfl
      rw [hi] at hc
      rw [hj] at hz
      obtain ⟨ca, ta, h1⟩ := ha.blk
      obtain ⟨cb, tb, h2⟩ := hb.blk
      exact run_eql_iface_ptr_other w Tryz.underlying56 Tryz.underlying180 hi (by simpa using hc) hj (by simp at hz; omega) hne h1 h2
theorem IsBufd.fr {S : Nat → Prop} {w w' : World} {bb q s a : Nat} {base n : Int} {D : List UInt8} {lim : Nat} {eEOF : Addr} {l : List UInt8} (h : IsBufd w bb q s a base n D lim eEOF l) (f : Fr S w w') (h1 : ¬ S bb) (h2 : ¬ S q) (h3 : ¬ S s) (h4 : ¬ S a) : IsBufd w' bb q s a base n D lim eEOF l := by
  obtain ⟨r, u, e, cells, off, l1, hB, hl⟩ := h
  obtain ⟨lb, lr, ho⟩ := hB.own
  exact ⟨r, u, e, cells, off, l1, ⟨⟨lb, lr, f.blk ho h1⟩, f.blk hB.buf h2, hB.size, hB.ru, hB.u4, hB.got, f.blk hB.part h3, f.blk hB.text h4, hB.err⟩, hl⟩
theorem nilAhead_buf (n bb : Nat) (w : World) : (nilAhead (n + 1) 189 (.pointer (some ⟨bb, 0, none⟩)) "Read").run Tryz.prog w = .ok (some false) w := by kernel_rfl
theorem nilAhead_part (n s : Nat) (w : World) : (nilAhead (n + 1) 124 (.pointer (some ⟨s, 0, none⟩)) "Read").run Tryz.prog w = .ok (some false) w := by kernel_rfl
/-- What ReadFull does: k bytes, of the l that the reader gives. -/
def fullErr (len : Nat) (l : List UInt8) (eEOF eUnx : Addr) : Value := if len ≤ l.length then .nilIface else if l = [] then errv eEOF else errv eUnx
def nil1 (r : Value) : Nat := match r with | .nilIface => 1 | _ => 0
theorem nil1_le (r : Value) : nil1 r ≤ 1 := by unfold nil1; split <;> omega
set_option maxRecDepth 100000 in
set_option maxHeartbeats 2000000 in
theorem readAtLeast_any (bb q s a g len cap lim : Nat) (base n : Int) (D l : List UInt8) (cur : Array Value) (t : TypeId) (eEOF eUnx : Addr) (w : World) (hb : IsBufd w bb q s a base n D lim eEOF l) (hg : Blk w g cur t) (hfit : len ≤ cur.size) (N0 : Nat) (hE : SenL w N0 5 eEOF) (hU : SenL w N0 4 eUnx) (hN : ∀ b, b = g ∨ b = bb ∨ b = q ∨ b = s → N0 ≤ b)
    (hcap : len ≤ cap) (hlen2 : len ≤ 4611686018427387904) (hlim : lim ≤ 4611686018427387904) (hD : D.length ≤ 4611686018427387904) (hd : Apart g bb q s a eEOF) :
    Calls Tryz.prog 144 #[bufv bb, .slice (some ⟨g, 0, none⟩) len cap, .int .i64 len] w fun e w' => e = .returned (.tuple #[.int .i64 (l.take len).length, fullErr len l eEOF eUnx]) ∧
      Blk w' g (put cur 0 (l.take len)) t ∧ IsBufd w' bb q s a base n D lim eEOF (l.drop len) ∧ Fr (fun b => b = g ∨ b = bb ∨ b = q ∨ b = s) w w' := by
  go_enter Tryz.func144, Tryz.ntmps144
  have HB := Lib.hid hb
  have HG := Lib.hid hg
  have HE := Lib.hid hE
  have HU := Lib.hid hU
  have HN := Lib.hid hN
  clear hb hg hE hU hN
  go_wp2
  go_loopw [7, 6] (fun v7 v6 wr => ∃ (k : Nat) (r : Value), v6 = .int .i64 k ∧ v7 = r ∧ k ≤ len ∧ k ≤ l.length ∧ Hid (r = .nilIface ∨ r = errv eEOF ∧ l.drop k = []) ∧ Hid (Blk wr g (put cur 0 (l.take k)) t ∧ IsBufd wr bb q s a base n D lim eEOF (l.drop k) ∧ Fr (fun b => b = g ∨ b = bb ∨ b = q ∨ b = s) w wr)) (fun v7 v6 _ => 2 * (len - (intOf v6).toNat) + nil1 v7)
  case atStart =>
    exact ⟨0, .nilIface, rfl, rfl, Nat.zero_le _, Nat.zero_le _, Lib.hid (.inl rfl), Lib.hid ⟨by rw [List.take_zero, put_nil]; exact HG.out, HB.out, Fr.refl _ _⟩⟩
  case round =>
    obtain ⟨k, r, rfl, rfl, hk, hkl, hr, hw⟩ := hrel
    have ceq := eql_same eEOF
    have hna := fun n w => nilAhead_buf n bb w
    have he : wr.cell? ⟨5, 0, none⟩ = some (errv eEOF) := (HE.out.fr hw.out.2.2 HN.out).sen.cell
    have hu : wr.cell? ⟨4, 0, none⟩ = some (errv eUnx) := (HU.out.fr hw.out.2.2 HN.out).sen.cell
    by_cases hlt : k < len
    · have hsm : (k : Int) < len := by omega
      rcases hr.out with rfl | ⟨rfl, hnil⟩
      · clear hr
        go_upto_region 5 with fail
        obtain ⟨m, hm⟩ : ∃ m, Hid (m = l.drop k) := ⟨_, Lib.hid rfl⟩
        have HC : Hid (∀ w', Fr (fun _ => False) wr w' → Calls Tryz.prog 218 #[.pointer (some ⟨bb, 0, none⟩), .slice (some ⟨g, k, none⟩) (len - k) (cap - k)] w' fun e w'' => ∃ (k' : Nat) (r : Value), e = .returned (.tuple #[.int .i64 k', r]) ∧ Hid (k' ≤ len - k ∧ k' ≤ m.length ∧ (m ≠ [] → 0 < k') ∧ (m = [] → r = errv eEOF)) ∧ Hid (r = .nilIface ∨ r = errv eEOF ∧ l.drop (k + k') = []) ∧ Hid (Blk w'' g (put cur 0 (l.take (k + k'))) t ∧ IsBufd w'' bb q s a base n D lim eEOF (l.drop (k + k')) ∧ Fr (fun b => b = g ∨ b = bb ∨ b = q ∨ b = s) w w'')) := by
          refine Lib.hid fun w' hw' => ?_
          obtain ⟨hg1, hb1, hf1⟩ := hw.out
          have hb1' := hb1.fr hw' id id id id
          have hlk : (l.take k).length = k := by simp; omega
          have hE' : Sen w' 5 eEOF := (HE.out.fr hf1 HN.out).sen.fr hw' id id
          refine (bufRead_any bb q s a g k (len - k) (cap - k) lim base n D (l.drop k) (put cur 0 (l.take k)) t eEOF w' hb1' (hw'.blk hg1 id) (by rw [size_put _ _ _ (by omega)]; omega) hE' (by omega) (by omega) (by omega) hlim hD hd).mono ?_
          rintro e w'' ⟨k', r, rfl, h1, h2, h3, h4, h5, h6, h7, h8⟩
          refine ⟨k', r, rfl, Lib.hid ⟨h1, by rw [hm.out]; exact h2, by rw [hm.out]; exact h3, by rw [hm.out]; exact h5⟩, Lib.hid ?_, Lib.hid ⟨?_, ?_, ?_⟩⟩
          · rw [← List.drop_drop]; exact h4
          · have := put_put cur 0 (l.take k) ((l.drop k).take k') (by simp at h2 ⊢; omega)
            rw [hlk, Nat.zero_add, ← List.take_add] at this
            rw [← this]; exact h6
          · rw [← List.drop_drop]; exact h7
          · exact (hf1.trans2 hw' (fun _ h => h) (fun _ h => h.elim)).trans2 h8 (fun _ h => h) (fun _ h => h)
        have hck : ¬ cap = k := by omega
        go_region_with (go_at_call 218; refine (HC.out _ ?hh).mono ?_; (case hh => exact (Fr.refl _ _).drew); rintro e w' ⟨k', r, rfl, hk', hr', hw'⟩)
        all_goals (
          have hkk : k + k' ≤ len := by have := hk'.out.1; omega
          go_wp2
          have h1 := hk'.out
          rw [hm.out, List.length_drop] at h1
          rw [show ((k : Int) + k') = ((k + k' : Nat) : Int) by omega] at *
          refine ⟨⟨k + k', r, rfl, rfl, hkk, by omega, hr', hw'⟩, ?_⟩
          by_cases hz : k' = 0
          · have hml : m = [] := by
              apply Classical.byContradiction; intro h; have := hk'.out.2.2.1 h; omega
            obtain rfl := hk'.out.2.2.2 hml
            simp [intOf, hz, nil1]
          · have hq := nil1_le r
            have hq1 : nil1 .nilIface = 1 := rfl
            simp only [intOf, Int.toNat_natCast, hq1] at *
            omega)
      · clear hr
        have hl : Hid (k = l.length) := Lib.hid (by rw [List.drop_eq_nil_iff] at hnil; omega)
        clear hnil
        by_cases hk0 : k = 0
        · subst hk0
          obtain rfl : l = [] := List.eq_nil_of_length_eq_zero hl.out.symm
          clear hl hkl
          go_wp2
          go_ret2
          have hw2 := hw.out
          rw [List.take_nil, List.drop_nil] at hw2
          rw [List.take_nil, List.drop_nil]
          refine ⟨?_, hw2⟩
          simp [fullErr]; omega
        · have hkp : (0 : Int) < k := by omega
          have hkl2 : ¬ (len : Int) ≤ k := by omega
          have hne : ¬ l = [] := by intro h; rw [h] at hl; exact hk0 (by simpa using hl.out)
          clear hk0
          have HNE := Lib.hid hne
          clear hne
          go_wp2
          go_ret2
          have hll := hl.out
          have e1 : l.take len = l.take k := by rw [List.take_eq_take_iff]; omega
          have e2 : l.drop len = l.drop k := by rw [drop_nil_of_le (by omega), drop_nil_of_le (by omega)]
          rw [e1, e2]
          refine ⟨?_, hw.out⟩
          rw [fullErr, if_neg (by omega), if_neg HNE.out]
          simp; omega
    · have hsm : ¬ (k : Int) < len := by omega
      clear hr
      obtain rfl : k = len := by omega
      go_wp2
      go_ret2
      refine ⟨?_, hw.out⟩
      rw [fullErr, if_pos (by omega)]
      simp
set_option maxRecDepth 100000 in
theorem readFull_any (bb q s a g len cap lim : Nat) (base n : Int) (D l : List UInt8) (cur : Array Value) (t : TypeId) (eEOF eUnx : Addr) (w : World) (hb : IsBufd w bb q s a base n D lim eEOF l) (hg : Blk w g cur t) (hfit : len ≤ cur.size) (N0 : Nat) (hE : SenL w N0 5 eEOF) (hU : SenL w N0 4 eUnx) (hN : ∀ b, b = g ∨ b = bb ∨ b = q ∨ b = s → N0 ≤ b)
    (hcap : len ≤ cap) (hlen2 : len ≤ 4611686018427387904) (hlim : lim ≤ 4611686018427387904) (hD : D.length ≤ 4611686018427387904) (hd : Apart g bb q s a eEOF) :
    Calls Tryz.prog 115 #[bufv bb, .slice (some ⟨g, 0, none⟩) len cap] w fun e w' => e = .returned (.tuple #[.int .i64 (l.take len).length, fullErr len l eEOF eUnx]) ∧
      Blk w' g (put cur 0 (l.take len)) t ∧ IsBufd w' bb q s a base n D lim eEOF (l.drop len) ∧ Fr (fun b => b = g ∨ b = bb ∨ b = q ∨ b = s) w w' := by
  have HC := Lib.hid (readAtLeast_any bb q s a g len cap lim base n D l cur t eEOF eUnx w hb hg hfit N0 hE hU hN hcap hlen2 hlim hD hd)
  clear hb hg hE hU hN hd
  go_enter Tryz.func115, Tryz.ntmps115
  go_wp2_with (go_at_call 144; refine HC.out.mono ?_; rintro e w' ⟨rfl, h⟩)
  go_ret2
  exact ⟨by simp, h⟩
end Go.Proofs.Zip
namespace Go.Proofs.Zip
open Go Go.RowKit
theorem Blk.setCells_at (vs : List Value) : ∀ (o : Nat) (w : World) (b : Nat) (c : Array Value) (T : TypeId), Blk w b c T → o + vs.length ≤ c.size → Blk (w.setCells b o vs) b (c.toList.take o ++ vs ++ c.toList.drop (o + vs.length)).toArray T := by
  induction vs with
  | nil => intro o w b c T h _; simpa [World.setCells] using h
  | cons v r ih =>
    intro o w b c T h hc
    simp only [World.setCells]
    have h1 := ih (o + 1) _ b _ T (h.set o v) (by simp at hc ⊢; omega)
    have e : (List.take (o + 1) (c.setIfInBounds o v).toList ++ r ++ List.drop (o + 1 + r.length) (c.setIfInBounds o v).toList) = (c.toList.take o ++ v :: r ++ c.toList.drop (o + (v :: r).length)) := by
      simp only [Array.toList_setIfInBounds, List.length_cons]
      have hl : o < c.toList.length := by simp at hc ⊢; omega
      rw [List.take_succ_eq_append_getElem (by simpa using hl)]
      simp only [List.getElem_set_self, List.append_assoc, List.cons_append, List.nil_append]
      rw [List.take_set_of_le (Nat.le_refl _), List.drop_set_of_lt (by omega)]
      rw [show o + 1 + r.length = o + (r.length + 1) by omega]
    rw [e] at h1
    exact h1
theorem Blk.setCells {w : World} {b : Nat} {c : Array Value} {T : TypeId} (h : Blk w b c T) (vs : List Value) (hl : vs.length = c.size) : Blk (w.setCells b 0 vs) b vs.toArray T := by
  have := Blk.setCells_at vs 0 w b c T h (by omega)
  rw [Nat.zero_add, List.take_zero, List.nil_append, drop_nil_of_le (by simp [hl]), List.append_nil] at this
  exact this
theorem Fr.setCells {S : Nat → Prop} {w : World} {b : Nat} (vs : List Value) : ∀ (o : Nat) {w1 : World}, Fr S w w1 → (b < w.heap.size → S b) → Fr S w (w1.setCells b o vs) := by
  induction vs with
  | nil => intro o w1 h _; exact h
  | cons v r ih => intro o w1 h hS; exact ih (o + 1) (h.setCell hS v) hS
/-- A store of all cells of a block. -/
theorem wpList_store_blk {P : Program} {ops : Array Oper} {rest : List Oper} {o : Oper} {a : Act} {w : World} {Q : Exit → Act → World → Prop} (hg : o.guard = none) (T : TypeId) (x y : Operand) (ho : o.op = .store T x y) (b : Nat) (cs ds : Array Value) (U : TypeId) (hb : Blk w b cs U)
    (hx : a.eval x = .pointer (some ⟨b, 0, none⟩)) (hy : a.eval y = .agg ds) (hi : (P.info? T).map (·.size) = some ds.size) (hsz : ds.size = cs.size) (h1 : ds.toList.all (·.oneCell') = true)
    (h : Blk (w.setCells b 0 ds.toList) b ds U → Fr (· = b) w (w.setCells b 0 ds.toList) → wpList P ops Q rest (a.put o.dst undef) (w.setCells b 0 ds.toList)) : wpList P ops Q (o :: rest) a w := by
  refine wpList_store_mid hg T x y ho b 0 ds hx hy ?_ hi (by simpa using h1) (h ?_ ?_)
  · intro j hj
    exact ⟨by rw [hb.cell]; simp; omega, hb.frozen _⟩
  · have := hb.setCells ds.toList (by simpa using hsz); simpa using this
  · exact Fr.setCells (w := w) _ _ (Fr.refl (· = b) _) (fun _ => rfl)
/-- 'make([]byte, n)': a new row. -/
theorem wpList_make_bytes {ops : Array Oper} {rest : List Oper} {o : Oper} {a : Act} {w : World} {Q : Exit → Act → World → Prop} (hg : o.guard = none) (l c : Operand) (hop : o.op = Op.makeSlice 76 l c) (n : Nat) (hl : a.eval l = .int .i64 n) (hc : a.eval c = .int .i64 n) (hn : n ≤ 140737488355328)
    (hK : ∀ w' cs, Blk w' w.heap.size cs 5 → cs.size = n → Below w.heap.size w w' → w.heap.size < w'.heap.size → wpList Tryz.prog ops Q rest (a.put o.dst (.slice (some ⟨w.heap.size, 0, none⟩) n n)) w') : wpList Tryz.prog ops Q (o :: rest) a w := by
  obtain ⟨i0, hi, hz0, hz1, hz2⟩ := info_parts infoU8
  refine wpList_make_full w hg l c 76 hop w.heap.size 5 i0 _ 1 Tryz.underlying76 hi hz0 hz1 .i64 .i64 n n n hl hc rfl rfl (by rw [hz2]; omega) (by unfold maxLen; omega) (Nat.le_refl _) ?_
  intro w' hown hgr
  obtain ⟨hlen, h⟩ := hown
  rcases h with ⟨h1, h2⟩ | ⟨g, cap, cur, hv, hg', hh, hcc, hm, hsz, htk⟩
  · cases h1
  · cases hv
    refine hK w' cur hh ?_ (Below.grown (Below.refl _ _) hgr (Nat.le_refl _) fun k hk => by cases hk) (Array.getElem?_eq_some_iff.1 hh).1
    omega
theorem assert_buf (s : Nat) (w : World) : (Instr.typeAssert (partv s) 89 189 true).run Tryz.prog w = .ok (.tuple #[.pointer none, .bool false]) w := by kernel_rfl
set_option maxRecDepth 100000 in
theorem newReader_any (s a : Nat) (base n : Int) (off lim : Nat) (D : List UInt8) (eEOF : Addr) (w : World) (hs : IsPart w s a base off lim n) (ha : IsText w a D) (_hoff : off ≤ 4611686018427387904) :
    Calls Tryz.prog 86 #[partv s] w fun e w' => e = .returned (.pointer (some ⟨w.heap.size, 0, none⟩)) ∧ IsBufd w' w.heap.size (w.heap.size + 1) s a base n D lim eEOF (rest D off lim) ∧ Below w.heap.size w w' ∧ w.heap.size + 2 ≤ w'.heap.size := by
  go_enter Tryz.func86, Tryz.ntmps86
  have HS := Lib.hid hs
  have HA := Lib.hid ha
  clear hs ha
  have hta := assert_buf s
  go_wp2_with (first | (go_at_call 114; go_in) | (go_at_call 143; go_in) | (refine wpList_make_bytes rfl _ _ rfl 4096 rfl rfl (by decide) ?_))
  intro w' cs hq hsz hb hlt
  have hbb : Blk w' w.heap.size #[.slice none 0 0, .nilIface, .int .i64 0, .int .i64 0, .nilIface, .int .i64 0, .int .i64 0] 276 := (Fr.of_below (S := fun _ => False) (by simpa using hb)).blk (Blk.new w _ _) id
  have HB := Lib.hid hbb
  have HQ := Lib.hid hq
  have HF := Lib.hid hb
  clear hbb hq hb
  go_wp2_with (first | (go_at_call 143; go_in) | (refine wpList_store_blk rfl 276 _ _ rfl w.heap.size _ _ 276 HB.out rfl rfl (by kernel_rfl) rfl rfl ?_; intro hst hfr; have HST := Lib.hid hst; have HFR := Lib.hid hfr; clear hst hfr))
  go_ret
  have hf0 : Fr (fun _ => False) w w' := ((Fr.refl _ w).alloc _).trans2 (Fr.of_below (S := fun _ => False) (by simpa using HF.out)) (fun _ h => h) (fun _ h => h)
  have hf1 := hf0.trans2 HFR.out (U := (· = w.heap.size)) (fun _ h => h.elim) (fun _ h => h)
  refine ⟨rfl, ⟨0, 0, .nilIface, cs, off, [], ⟨⟨-1, -1, HST.out⟩, HFR.out.blk HQ.out (by omega), hsz, rfl, by omega, rfl, ?_, ?_, .inl rfl⟩, rfl⟩, hf1.below (Nat.le_refl _) (fun i hi h => by omega), Nat.le_trans (by omega) HFR.out.size⟩
  · exact hf1.blk HS.out (Nat.ne_of_lt HS.out.lt)
  · exact hf1.blk HA.out (Nat.ne_of_lt HA.out.lt)
end Go.Proofs.Zip
namespace Go.Proofs.Zip
open Go Go.RowKit
/-! Numbers laid as bytes, and read back. -/
theorem leN_leB (k : Nat) (n : Nat) (h : n < 256 ^ k) (h2 : n < 4611686018427387904) : leN (leB k (n : Int)) = n := by
  induction k generalizing n with
  | zero => simp at h; subst h; rfl
  | succ k ih =>
    have e1 : ((n : Int).tmod 256 % 256).toNat = n % 256 := by rw [show (256 : Int) = ((256 : Nat) : Int) from rfl, ← Int.ofNat_tmod]; omega
    have e2 : wrap64 ((n : Int).tdiv 256) = ((n / 256 : Nat) : Int) := by
      rw [show (256 : Int) = ((256 : Nat) : Int) from rfl, ← Int.ofNat_tdiv]; unfold wrap64; omega
    rw [leB, leN, e1, e2, ih (n / 256) (by rw [Nat.pow_succ] at h; omega) (by omega)]
    simp only [UInt8.toNat_ofNat']; omega
theorem leN_leB2 (n : Int) (h0 : 0 ≤ n) (h : n ≤ 65535) : (leN (leB 2 n) : Int) = n := by
  obtain ⟨m, rfl⟩ := Int.eq_ofNat_of_zero_le h0
  rw [leN_leB 2 m (by simp; omega) (by omega)]
theorem leN_leB4 (n : Int) (h0 : 0 ≤ n) (h : n ≤ 4294967295) : (leN (leB 4 n) : Int) = n := by
  obtain ⟨m, rfl⟩ := Int.eq_ofNat_of_zero_le h0
  rw [leN_leB 4 m (by simp; omega) (by omega)]
/-! A buffer of bytes that is read from its head on: whatever bytes there are. -/
/-- Block d holds bytes from 0 to N. -/
def Bytes (w : World) (d N : Nat) : Prop := d < w.heap.size ∧ ∀ i, i < N → ∃ x : UInt8, w.cell? ⟨d, i, none⟩ = some (.int .u8 (x.toNat : Int))
theorem Bytes.fr {S : Nat → Prop} {w w' : World} {d N : Nat} (h : Bytes w d N) (f : Fr S w w') (hS : ¬ S d) : Bytes w' d N :=
  ⟨Nat.lt_of_lt_of_le h.1 f.size, fun i hi => by rw [f.cell h.1 hS]; exact h.2 i hi⟩
theorem Bytes.of_range {w : World} {d : Nat} {l : List UInt8} (h : w.rangeAt d 0 (u8s l)) (hd : d < w.heap.size) : Bytes w d l.length :=
  ⟨hd, fun i hi => ⟨l[i], by have := h i (.int .u8 (l[i].toNat : Int)) (by simp [u8s, hi]); simpa using this⟩⟩
/-- The readBuf at v: len bytes of block d are left of it. -/
def RbOk (w : World) (v d N len : Nat) : Prop := ∃ o cap, IsRb w v (some ⟨d, o, none⟩) len cap ∧ len ≤ cap ∧ o + len ≤ N
theorem RbOk.fr {S : Nat → Prop} {w w' : World} {v d N len : Nat} (h : RbOk w v d N len) (f : Fr S w w') (hS : ¬ S v) : RbOk w' v d N len := by
  obtain ⟨o, cap, h1, h2⟩ := h
  exact ⟨o, cap, f.blk h1 hS, h2⟩
theorem RbOk.adv {w : World} {v d N len o cap k : Nat} (h : IsRb w v (adv d o k cap) (len - k) (cap - k)) (hl : k ≤ len) (hc : len ≤ cap) (ho : o + len ≤ N) : RbOk w v d N (len - k) := by
  unfold Go.Proofs.Zip.adv at h
  split at h
  · exact ⟨o, cap - k, h, by omega, by omega⟩
  · exact ⟨o + k, cap - k, h, by omega, by omega⟩
theorem rb16_ok (v d N len : Nat) (w : World) (hv : RbOk w v d N len) (hd : Bytes w d N) (hlen : 2 ≤ len) :
    Calls Tryz.prog 90 #[.pointer (some ⟨v, 0, none⟩)] w fun e w' => (∃ n : Nat, n < 65536 ∧ e = .returned (.int .u16 n)) ∧ RbOk w' v d N (len - 2) ∧ Fr (· = v) w w' := by
  obtain ⟨o, cap, h1, h2, h3⟩ := hv
  obtain ⟨a, ha⟩ := hd.2 o (by omega)
  obtain ⟨b, hb⟩ := hd.2 (o + 1) (by omega)
  refine (rb16_any v d o len cap a b w h1 ?_ hlen h2).mono ?_
  · intro j x hj
    match j, hj with
    | 0, hj => simp [u8s] at hj; subst hj; exact ha
    | 1, hj => simp [u8s] at hj; subst hj; exact hb
    | j + 2, hj => simp [u8s] at hj
  · rintro e w' ⟨rfl, h4, h5⟩
    exact ⟨⟨_, by have := leN_lt [a, b]; simpa using this, rfl⟩, RbOk.adv h4 hlen h2 h3, h5⟩
theorem rb32_ok (v d N len : Nat) (w : World) (hv : RbOk w v d N len) (hd : Bytes w d N) (hlen : 4 ≤ len) :
    Calls Tryz.prog 89 #[.pointer (some ⟨v, 0, none⟩)] w fun e w' => (∃ n : Nat, n < 4294967296 ∧ e = .returned (.int .u32 n)) ∧ RbOk w' v d N (len - 4) ∧ Fr (· = v) w w' := by
  obtain ⟨o, cap, h1, h2, h3⟩ := hv
  obtain ⟨a, ha⟩ := hd.2 o (by omega)
  obtain ⟨b, hb⟩ := hd.2 (o + 1) (by omega)
  obtain ⟨c, hc⟩ := hd.2 (o + 2) (by omega)
  obtain ⟨x, hx⟩ := hd.2 (o + 3) (by omega)
  refine (rb32_any v d o len cap a b c x w h1 ?_ hd.1 hlen h2).mono ?_
  · intro j y hj
    match j, hj with
    | 0, hj => simp [u8s] at hj; subst hj; exact ha
    | 1, hj => simp [u8s] at hj; subst hj; exact hb
    | 2, hj => simp [u8s] at hj; subst hj; exact hc
    | 3, hj => simp [u8s] at hj; subst hj; exact hx
    | j + 4, hj => simp [u8s] at hj
  · rintro e w' ⟨rfl, h4, h5⟩
    exact ⟨⟨_, by have := leN_lt [a, b, c, x]; simpa using this, rfl⟩, RbOk.adv h4 hlen h2 h3, h5⟩
/-- A slice of n bytes within the first N of block d. -/
def SlOk (v : Value) (d N n : Nat) : Prop := ∃ o cap, v = .slice (some ⟨d, o, none⟩) n cap ∧ n ≤ cap ∧ o + n ≤ N
theorem SlOk.rb {w : World} {v : Value} {d N n : Nat} (h : SlOk v d N n) {b : Nat} (hb : Blk w b #[v] 194) : RbOk w b d N n := by
  obtain ⟨o, cap, rfl, h1, h2⟩ := h
  exact ⟨o, cap, hb, h1, h2⟩
set_option maxRecDepth 100000 in
set_option maxHeartbeats 1000000 in
theorem sub_ok (v d N len n : Nat) (w : World) (hv : RbOk w v d N len) (hn : n ≤ len) (_hN : N ≤ 4611686018427387904) :
    Calls Tryz.prog 116 #[.pointer (some ⟨v, 0, none⟩), .int .i64 n] w fun e w' => (∃ u, e = .returned u ∧ SlOk u d N n) ∧ RbOk w' v d N (len - n) ∧ Fr (· = v) w w' := by
  obtain ⟨o, cap, h1, h2, h3⟩ := hv
  go_enter Tryz.func116, Tryz.ntmps116
  have c0 : w.cell? ⟨v, 0, none⟩ = some (.slice (some ⟨d, o, none⟩) len cap) := h1.cell 0
  have f0 : w.frozen? ⟨v, 0, none⟩ = false := h1.frozen 0
  have hs2 : (n : Int) ≤ len := by omega
  have hs3 : (len : Int) ≤ cap := by omega
  have hs4 : (n : Int) ≤ cap := by omega
  have hs5 : (0 : Int) ≤ n := by omega
  have HV := Lib.hid h1
  clear h1
  by_cases hc : cap = n
  · subst hc; obtain rfl : len = _ := Nat.le_antisymm h2 hn
    go_wp2
    go_ret
    exact ⟨⟨_, rfl, o, len, rfl, Nat.le_refl _, h3⟩, ⟨o, 0, by simpa using HV.out.set 0 _, by omega, by omega⟩, (Fr.refl (· = v) _).setCell (fun _ => rfl) _⟩
  · go_wp2
    go_ret
    exact ⟨⟨_, rfl, o, cap, rfl, by omega, by omega⟩, ⟨o + n, _, HV.out.set 0 _, by omega, by omega⟩, (Fr.refl (· = v) _).setCell (fun _ => rfl) _⟩
set_option maxRecDepth 100000 in
set_option maxHeartbeats 1000000 in
theorem rb8_ok (v d N len : Nat) (w : World) (hv : RbOk w v d N len) (hd : Bytes w d N) (hlen : 1 ≤ len) :
    Calls Tryz.prog 121 #[.pointer (some ⟨v, 0, none⟩)] w fun e w' => (∃ x : UInt8, e = .returned (.int .u8 (x.toNat : Int))) ∧ RbOk w' v d N (len - 1) ∧ Fr (· = v) w w' := by
  obtain ⟨o, cap, h1, h2, h3⟩ := hv
  obtain ⟨x, hx⟩ := hd.2 o (by omega)
  go_enter Tryz.func121, Tryz.ntmps121
  have c0 : w.cell? ⟨v, 0, none⟩ = some (.slice (some ⟨d, o, none⟩) len cap) := h1.cell 0
  have f0 : w.frozen? ⟨v, 0, none⟩ = false := h1.frozen 0
  have hs2 : (1 : Int) ≤ len := by omega
  have hs3 : (len : Int) ≤ cap := by omega
  have hs4 : (1 : Int) ≤ cap := by omega
  have HV := Lib.hid h1
  clear h1
  by_cases hc : cap = 1
  · subst hc; obtain rfl : len = _ := Nat.le_antisymm h2 hlen
    go_wp2
    go_ret
    exact ⟨⟨_, rfl⟩, ⟨o, 0, by simpa using HV.out.set 0 _, by omega, by omega⟩, (Fr.refl (· = v) _).setCell (fun _ => rfl) _⟩
  · go_wp2
    go_ret
    exact ⟨⟨_, rfl⟩, ⟨o + 1, _, HV.out.set 0 _, by omega, by omega⟩, (Fr.refl (· = v) _).setCell (fun _ => rfl) _⟩
theorem Bytes.four {w : World} {d N o : Nat} (hd : Bytes w d N) (h : o + 4 ≤ N) : ∃ a b c e : UInt8, w.rangeAt d o (u8s [a, b, c, e]) := by
  obtain ⟨a, ha⟩ := hd.2 o (by omega)
  obtain ⟨b, hb⟩ := hd.2 (o + 1) (by omega)
  obtain ⟨c, hc⟩ := hd.2 (o + 2) (by omega)
  obtain ⟨x, hx⟩ := hd.2 (o + 3) (by omega)
  refine ⟨a, b, c, x, fun j y hj => ?_⟩
  match j, hj with
  | 0, hj => simp [u8s] at hj; subst hj; exact ha
  | 1, hj => simp [u8s] at hj; subst hj; exact hb
  | 2, hj => simp [u8s] at hj; subst hj; exact hc
  | 3, hj => simp [u8s] at hj; subst hj; exact hx
  | j + 4, hj => simp [u8s] at hj
set_option maxRecDepth 100000 in
set_option maxHeartbeats 1000000 in
theorem le64_ok (d N o len cap : Nat) (w : World) (hd : Bytes w d N) (h8 : 8 ≤ len) (hcap : len ≤ cap) (hN : o + len ≤ N) : Calls Tryz.prog 145 #[.slice (some ⟨d, o, none⟩) len cap] w fun e w' => (∃ n, e = .returned (.int .u64 n)) ∧ Below w.heap.size w w' := by
  obtain ⟨a, b, c, e, h1⟩ := hd.four (o := o) (by omega)
  obtain ⟨a', b', c', e', h2⟩ := hd.four (o := o + 4) (by omega)
  have hlt := hd.1
  go_enter Tryz.func145, Tryz.ntmps145
  have hcp : ¬ cap = 4 := by omega
  have hs2 : (4 : Int) ≤ len := by omega
  have hs3 : (len : Int) ≤ cap := by omega
  have HH1 := Lib.hid h1
  have HH2 := Lib.hid h2
  clear h1 h2 hd
  go_wp2_with fail
  refine wp_region_below (by kernel_rfl) (by kernel_rfl) fun σ _ f hf hcell hmk => ?_
  have HC1 : Hid (∀ x, Calls Tryz.prog 127 #[.slice (some ⟨d, o, none⟩) len cap] (f x) fun e' w'' => e' = .returned (.int .u32 (leN [a, b, c, e])) ∧ ∃ y, w'' = f y) := Lib.hid fun x =>
    (le32_any d o len cap a b c e (f x) (fun j v hj => by rw [hcell _ _ _ hlt]; exact HH1.out j v hj) (Nat.lt_of_lt_of_le hlt (hf x).size) (by omega) hcap).mono fun e' w'' h => ⟨h.1, hmk _ _ h.2⟩
  have HC2 : Hid (∀ x, Calls Tryz.prog 127 #[.slice (some ⟨d, o + 4, none⟩) (len - 4) (cap - 4)] (f x) fun e w'' => e = .returned (.int .u32 (leN [a', b', c', e'])) ∧ ∃ y, w'' = f y) := Lib.hid fun x =>
    (le32_any d (o + 4) (len - 4) (cap - 4) a' b' c' e' (f x) (fun j v hj => by rw [hcell _ _ _ hlt]; exact HH2.out j v hj) (Nat.lt_of_lt_of_le hlt (hf x).size) (by omega) (by omega)).mono fun e w'' h => ⟨h.1, hmk _ _ h.2⟩
  repeat (go_big_quiet_step ((first | (go_at_call_of 127 (Value.slice (some (Addr.mk d o none)) len cap); exact HC1.out _) | (go_at_call 127; exact HC2.out _))))
  refine wpQuiet_nil ?_
  rintro _ ⟨x, rfl⟩
  go_wp2
  go_ret
  exact ⟨⟨_, rfl⟩, hf x⟩
set_option maxRecDepth 100000 in
set_option maxHeartbeats 1000000 in
theorem rb64_ok (v d N len : Nat) (w : World) (hv : RbOk w v d N len) (hd : Bytes w d N) (hlen : 8 ≤ len) :
    Calls Tryz.prog 117 #[.pointer (some ⟨v, 0, none⟩)] w fun e w' => (∃ n, e = .returned (.int .u64 n)) ∧ RbOk w' v d N (len - 8) ∧ Fr (· = v) w w' := by
  obtain ⟨o, cap, h1, h2, h3⟩ := hv
  go_enter Tryz.func117, Tryz.ntmps117
  have c0 : w.cell? ⟨v, 0, none⟩ = some (.slice (some ⟨d, o, none⟩) len cap) := h1.cell 0
  have hs2 : (8 : Int) ≤ len := by omega
  have hs3 : (len : Int) ≤ cap := by omega
  have HV := Lib.hid h1
  have HD := Lib.hid hd
  clear h1 hd
  by_cases hc : cap = 8
  · subst hc; obtain rfl : len = _ := Nat.le_antisymm h2 hlen
    go_wp2_with (go_at_call 145; refine (le64_ok d N o _ _ w HD.out hlen h2 h3).mono ?_; rintro e w1 ⟨⟨n, rfl⟩, hb⟩; have hv1 := Lib.hid (below_blk hb HV.out); have c1 : w1.cell? ⟨v, 0, none⟩ = some (.slice (some ⟨d, o, none⟩) _ _) := hv1.out.cell 0; have f1 : w1.frozen? ⟨v, 0, none⟩ = false := hv1.out.frozen 0)
    go_ret
    exact ⟨⟨_, rfl⟩, ⟨o, 0, by simpa using hv1.out.set 0 _, by omega, by omega⟩, (Fr.of_below (S := (· = v)) hb).setCell (fun _ => rfl) _⟩
  · go_wp2_with (go_at_call 145; refine (le64_ok d N o _ _ w HD.out hlen h2 h3).mono ?_; rintro e w1 ⟨⟨n, rfl⟩, hb⟩; have hv1 := Lib.hid (below_blk hb HV.out); have c1 : w1.cell? ⟨v, 0, none⟩ = some (.slice (some ⟨d, o, none⟩) _ _) := hv1.out.cell 0; have f1 : w1.frozen? ⟨v, 0, none⟩ = false := hv1.out.frozen 0)
    go_ret
    exact ⟨⟨_, rfl⟩, ⟨o + 8, _, hv1.out.set 0 _, by omega, by omega⟩, (Fr.of_below (S := (· = v)) hb).setCell (fun _ => rfl) _⟩
end Go.Proofs.Zip
