/- A part of a proof over the given program: All, AllD, Nw, Fi. Nothing is assumed here. -/
import Derived.Test.YtidmhfhfcoljeaaGreatDoorZN
import Derived.Test.YtidmhfhfcoljeaaGreatDoorZM
import Derived.Test.YtidmhfhfcoljeaaGreatDoorZO
import Derived.Maps.AppendAt
namespace Go.Proofs.Zip
open Go Go.RowKit
/-- 'append(out, b[:m]...)' of bytes that lie in a row. -/
theorem wpList_app_bytes {w : World} {ops : Array Oper} {rest : List Oper} {o : Oper} {a : Act} {Q : Exit → Act → World → Prop} (hgd : o.guard = none) (s x : Operand)
    (ho : o.op = .call { callee := .builtin .append, args := #[s, x], argTypes := #[76, 76] }) (base : Nat) (v : Value) (l : List UInt8) (hs : a.eval s = v) (hown : w.ownsRow base 5 1 v l.length (u8s l))
    (g m c : Nat) (M : List UInt8) (hx : a.eval x = .slice (some ⟨g, 0, none⟩) m c) (hm : M.length = m) (hM : w.rangeAt g 0 (u8s M)) (hn : l.length + m ≤ 140737488355328) (hbase : base ≤ w.heap.size)
    (h : ∀ v' w', w'.ownsRow base 5 1 v' (l ++ M).length (u8s (l ++ M)) → Fr (fun b => some b = v.ownBlock) w w' → (v'.ownBlock = v.ownBlock ∨ v'.ownBlock = some w.heap.size) → wpList Tryz.prog ops Q rest (a.put o.dst v') w') : wpList Tryz.prog ops Q (o :: rest) a w := by
  obtain ⟨i0, hi, hz0, hz1, hz2⟩ := info_parts infoU8
  refine wpList_append_own_at w hgd s x 76 ho base 5 i0 _ 1 1 Tryz.underlying76 hi hz0 hz1 hz2 rfl (by decide) v l.length (u8s l) hs hown ⟨g, 0, none⟩ m c (u8s M) hx (by simp [hm]) ?_ (u8s_one M) (by unfold maxLen; omega) (by omega) hbase ?_
  · intro j u hj
    rw [add_at, Nat.zero_add]
    have := hM j u hj
    rwa [Nat.zero_add] at this
  · intro v' w' h1 h2 _ h3
    refine h v' w' ?_ (Fr.of_grown h2) h3
    rw [u8s_append, List.length_append, hm]; exact h1
theorem Chk.fr {S : Nat → Prop} {w w' : World} {q s hb f a b k P : Nat} {D T : List UInt8} (h : Chk w q s hb f a b k P D T) (hf : Fr S w w') (hS : ∀ x, x = q ∨ x = s ∨ x = hb ∨ x = a → ¬ S x) : Chk w' q s hb f a b k P D T :=
  ⟨hf.blk h.chk (hS _ (.inl rfl)), hf.blk h.part (hS _ (.inr (.inl rfl))), hf.blk h.hash (hS _ (.inr (.inr (.inl rfl)))), hf.blk h.text (hS _ (.inr (.inr (.inr rfl))))⟩
/-- What reading all of a checked reader answers. -/
def AllPost (h : H) (P : Nat) (T : List UInt8) (S : Nat → Prop) (w : World) (e : Ending) (w' : World) : Prop :=
  ∃ l n, e = .returned (.tuple #[.string (B l), .int .i64 (n : Nat)]) ∧ Hid ((n = 0 → l = T) ∧ (h.size ≠ (P : Int) → n = 4) ∧ (h.size = (P : Int) → h.crc ≠ 0 → (crc T : Int) ≠ h.crc → n = 3) ∧ (h.size = (P : Int) → (h.crc = 0 ∨ (crc T : Int) = h.crc) → n = 0)) ∧ Hid (Fr S w w')
/-- The state of a loop that reads all: out holds what is read. -/
structure AllSt (w wr : World) (v : Value) (gb : Nat) (S : Nat → Prop) (cur : Array Value) (L : List UInt8) : Prop where
  own : wr.ownsRow w.heap.size 5 1 v L.length (u8s L)
  at_ : ∀ b, some b = v.ownBlock → b ≠ gb
  buf : Blk wr gb cur 5
  fr : Fr S w wr
theorem AllSt.app {w wr wa : World} {v v' : Value} {gb : Nat} {S : Nat → Prop} {cur : Array Value} {L M : List UInt8} (h : AllSt w wr v gb S cur L) (_hgb : w.heap.size ≤ gb) (h1 : wa.ownsRow w.heap.size 5 1 v' (L ++ M).length (u8s (L ++ M))) (h2 : Fr (fun b => some b = v.ownBlock) wr wa) (h3 : v'.ownBlock = v.ownBlock ∨ v'.ownBlock = some wr.heap.size) : AllSt w wa v' gb S cur (L ++ M) := by
  refine ⟨h1, ?_, h2.blk h.buf fun e => h.at_ _ e rfl, h.fr.trans h2 fun i hi e => ?_⟩
  · intro b hb
    rcases h3 with h3 | h3
    · exact h.at_ b (by rw [hb, h3])
    · rw [h3] at hb
      have := h.buf.lt
      cases hb; omega
  · have := ownBlock_ge h.own i e; omega
theorem AllSt.read {w wr wa : World} {v : Value} {gb : Nat} {S S' : Nat → Prop} {cur cur' : Array Value} {L : List UInt8} (h : AllSt w wr v gb S cur L) (hb : Blk wa gb cur' 5) (hf : Fr (fun b => b = gb ∨ S' b) wr wa) (hgb : w.heap.size ≤ gb) (hS : ∀ b, S' b → S b) (hS2 : ∀ b, S' b → b < w.heap.size) : AllSt w wa v gb S cur' L := by
  refine ⟨ownsRow_fr h.own hf ?_, h.at_, hb, h.fr.trans hf fun i hi e => ?_⟩
  · rintro b (rfl | hb) e
    · exact h.at_ _ e rfl
    · have := ownBlock_ge h.own b e; have := hS2 b hb; omega
  · rcases e with rfl | e
    · omega
    · exact hS _ e
theorem put0_range (cur : Array Value) (M : List UInt8) (h : M.length ≤ cur.size) : ((put cur 0 M).toList.drop 0).take (u8s M).length = u8s M := by
  have := put_range cur 0 M (by omega)
  rw [length_u8s]; exact this
theorem own_at {w : World} {e : TypeId} (cur : Array Value) : (w.alloc (.cells cur e)).ownsRow w.heap.size e 1 (.slice (some ⟨w.heap.size, 0, none⟩) 0 0) 0 [] ∨ cur.size ≠ 0 := by
  by_cases h : cur.size = 0
  · exact .inl ⟨rfl, .inr ⟨_, 0, _, rfl, Nat.le_refl _, heap_alloc_last _ _, Nat.le_refl _, by decide, by omega, rfl⟩⟩
  · exact .inr h
theorem AllSt.chunk {w wa : World} {v : Value} {gb : Nat} {S : Nat → Prop} {cur : Array Value} {L M : List UInt8} {n : Nat} (h : AllSt w wa v gb S (put cur 0 M) L) (hn : n ≤ M.length) (hM : M.length ≤ cur.size) : wa.rangeAt gb 0 (u8s (M.take n)) := by
  refine h.buf.range ?_
  have := put0_range cur M hM
  rw [length_u8s] at this
  rw [length_u8s, List.length_take, Nat.min_eq_left hn]
  have e := congrArg (List.take n) this
  rw [List.take_take, Nat.min_eq_left hn] at e
  rw [e, u8s, u8s, List.map_take]
theorem neq_nil (e : Addr) (w : World) : (binOp .neq 56 (errv e) .nilIface).run Tryz.prog w = .ok (.bool true) w := by kernel_rfl
set_option maxRecDepth 100000 in
set_option maxHeartbeats 2000000 in
theorem allChk_any (q s hb f rb a off b P N0 : Nat) (h : H) (non : Bool) (t0 t1 t2 x : Value) (D T : List UInt8) (E : Errs) (w : World) (hc : Chk w q s hb f a b 0 P D T) (hE : Env w N0 E) (hf : fileAt w f h non t0 t1 t2 x rb a off)
    (hT : rest D b (b + P) = T) (hTl : T.length = P) (hsz : (P : Int) ≤ h.size) (hsz2 : h.size ≤ 4294967295) (hP : b + P ≤ 2305843009213693952) (hPP : P ≤ 8388608) (hD : D.length ≤ 2305843009213693952)
    (hs0 : N0 ≤ s) (hsh : s < hb) (hhq : hb < q) (hfl : f < s) (hal : a < s) :
    Calls Tryz.prog 41 #[chkv q] w (AllPost h P T (fun b => b = s ∨ b = hb ∨ b = q) w) := by
  go_enter Tryz.func41, Tryz.ntmps41
  have HC := Lib.hid hc
  have HE := Lib.hid hE
  have HF := Lib.hid hf
  have HT := Lib.hid hT
  have HTL := Lib.hid hTl
  have qlt := hc.chk.lt
  clear hc hE hf hT hTl
  go_wp2_with (refine wpList_make_bytes rfl _ _ rfl 512 rfl rfl (by decide) ?_)
  intro w1 cs hgb hcs hbl hlt
  obtain ⟨gb, hgbe⟩ : ∃ gb, gb = w.heap.size + 1 := ⟨_, rfl⟩
  rw [← hgbe] at hgb hbl hlt ⊢
  have hgb0 : w.heap.size < gb := by omega
  have hfr1 : Fr (fun _ => False) (w.alloc (.cells #[] 5)) w1 := Fr.of_below (by rw [World.size_alloc, ← hgbe]; exact hbl)
  have hst : AllSt w w1 (.slice (some ⟨w.heap.size, 0, none⟩) 0 0) gb (fun b => b = s ∨ b = hb ∨ b = q) cs [] := by
    refine ⟨ownsRow_fr (S := fun _ => False) ?_ hfr1 (fun _ h => h.elim), ?_, hgb, (((Fr.refl _ w).alloc _)).trans2 hfr1 (fun _ h => h) (fun _ h => h.elim)⟩
    · exact ⟨rfl, .inr ⟨_, 0, _, rfl, Nat.le_refl _, heap_alloc_last _ _, Nat.le_refl _, by decide, rfl, rfl⟩⟩
    · intro b hb e; simp [Value.ownBlock] at hb; omega
  have hst2 : Chk w1 q s hb f a b 0 P D T ∧ Env w1 N0 E ∧ fileAt w1 f h non t0 t1 t2 x rb a off := by
    have hfr : Fr (fun _ => False) w w1 := ((Fr.refl _ w).alloc _).trans2 hfr1 (fun _ h => h) (fun _ h => h)
    exact ⟨⟨hfr.blk HC.out.chk id, hfr.blk HC.out.part id, hfr.blk HC.out.hash id, hfr.blk HC.out.text id⟩, HE.out.fr hfr (fun _ h => h.elim), hfr.blk HF.out id⟩
  have HST := Lib.hid hst
  have HST2 := Lib.hid hst2
  clear hst hst2 hgb hbl hfr1 hlt hgbe
  go_wp2_with fail
  go_loopw [4] (fun v wr => ∃ (k : Nat) (cur : Array Value), k ≤ P ∧ cur.size = 512 ∧ Hid (AllSt w wr v gb (fun b => b = s ∨ b = hb ∨ b = q) cur (T.take k)) ∧ Hid (Chk wr q s hb f a b k P D T)) (fun v _ => P - lenOfV v)
  case atStart =>
    exact ⟨0, cs, Nat.zero_le _, hcs, Lib.hid (by rw [List.take_zero]; exact HST.out), Lib.hid HST2.out.1⟩
  case round =>
    obtain ⟨k, cur, hk, hcur, hSt, hCh⟩ := hrel
    have hEr : Hid (Env wr N0 E) := Lib.hid (HE.out.fr hSt.out.fr (by rintro b (e | e | e) <;> omega))
    have hFr : Hid (fileAt wr f h non t0 t1 t2 x rb a off) := Lib.hid (hSt.out.fr.blk HF.out (by rintro (e | e | e) <;> omega))
    have hn0 := HE.out.le
    have HR := Lib.hid (chkRead_any q s hb f rb a off b k P gb 512 N0 h non t0 t1 t2 x D T cur 5 E wr hCh.out hEr.out ⟨by omega, by omega, by omega, by omega, by omega, by omega, by omega, by omega, by omega, by omega, by omega, by omega, by omega, by omega, by omega⟩ hFr.out HT.out HTL.out hsz hsz2 hSt.out.buf 512 hk (by decide) (Nat.le_refl _) (by omega) (by decide) (by omega) (by omega))
    have hlk : (T.take k).length = k := by rw [List.length_take, HTL.out]; omega
    have HLK := Lib.hid hlk
    have hlv := lenOfV_own hSt.out.own
    rw [hlk] at hlv
    have ceq := eql_same E.eof
    clear hlk hEr hFr hn0
    go_wp2_with fail
    refine HR.out.mono ?_
    rintro e wa ⟨M, hM, hkM, hMl, hor⟩
    have HMM := Lib.hid hM.out.1
    have hSt2 : Hid (AllSt w wa _ gb (fun b => b = s ∨ b = hb ∨ b = q) (put cur 0 M) (T.take k)) := Lib.hid (hSt.out.read hM.out.2.1 (hM.out.2.2.mono (fun b _ h => h)) (by omega) (fun _ h => h) (by rintro b (e | e | e) <;> omega))
    have hEa : Hid (Env wa N0 E) := Lib.hid (HE.out.fr hSt2.out.fr (by rintro b (e | e | e) <;> omega))
    have hMc : M.length ≤ cur.size := by omega
    rcases hor with ⟨rfl, hm0, hCh2⟩ | ⟨hlast, n, x, rfl, hn, hL⟩
    · clear hM HR hlv hSt hCh
      go_wp2_with (at_builtin; refine wpList_app_bytes rfl _ _ rfl w.heap.size _ (T.take k) rfl hSt2.out.own gb M.length 512 M rfl rfl ?c1 ?c2 ?c3 ?_)
      case c1 => have := hSt2.out.chunk (Nat.le_refl _) hMc; rw [List.take_length] at this; exact this
      case c2 => rw [HLK.out]; omega
      case c3 => exact hSt2.out.fr.size
      intro v' wb own' fr' at'
      have own2 : wb.ownsRow w.heap.size 5 1 v' (T.take k ++ M).length (u8s (T.take k ++ M)) := by simpa using own'
      have hSt3 := Lib.hid (hSt2.out.app (by omega) own2 fr' at')
      have hEb := HE.out.fr hSt3.out.fr (by rintro b (e | e | e) <;> omega)
      have ge : wb.cell? ⟨5, 0, none⟩ = some (errv E.eof) := hEb.eof.sen.cell
      have nq := fun e w => nil_eql e w
      have hCh3 : Hid (Chk wb q s hb f a b (k + M.length) P D T) := Lib.hid (hCh2.out.fr fr' (fun b hb e => by have := ownBlock_ge hSt2.out.own b e; have := qlt; rcases hb with h | h | h | h <;> omega))
      clear own' own2 fr' at' hEb
      go_wp2
      have hlk2 : T.take k ++ M = T.take (k + M.length) := by
        have h2 := HMM.out
        rw [List.take_add]
        congr 1
        rw [h2, List.take_eq_take_iff]; simp
      have hcur2 : (put cur 0 M).size = 512 := by rw [size_put _ _ _ (by omega)]; exact hcur
      refine ⟨⟨k + M.length, put cur 0 M, hkM, hcur2, Lib.hid ?_, Lib.hid ?_⟩, ?_⟩
      · rw [← hlk2]; exact hSt3.out
      · exact hCh3.out
      · rw [lenOfV_own hSt3.out.own, lenOfV_own hSt2.out.own, List.length_append, HLK.out]; omega
    · clear hM HR hlv hSt hCh
      go_wp2_with (at_builtin; refine wpList_app_bytes rfl _ _ rfl w.heap.size _ (T.take k) rfl hSt2.out.own gb n 512 (M.take n) rfl ?c0 ?c1 ?c2 ?c3 ?_)
      case c0 => rw [List.length_take]; omega
      case c1 => exact hSt2.out.chunk hn hMc
      case c2 => rw [HLK.out]; omega
      case c3 => exact hSt2.out.fr.size
      intro v' wb own' fr' at'
      have own2 : wb.ownsRow w.heap.size 5 1 v' (T.take k ++ M.take n).length (u8s (T.take k ++ M.take n)) := by
        have e : (T.take k ++ M.take n).length = min k T.length + n := by rw [List.length_append, List.length_take, List.length_take]; omega
        rw [e]; exact own'
      have hSt3 := Lib.hid (hSt2.out.app (by omega) own2 fr' at')
      have hEb := HE.out.fr hSt3.out.fr (by rintro b (e | e | e) <;> omega)
      have ge : wb.cell? ⟨5, 0, none⟩ = some (errv E.eof) := hEb.eof.sen.cell
      have hcv := run_convert_own 76 5 9 Tryz.underlying76 Tryz.underlying5 Tryz.underlying9 hSt3.out.own
      have s1 := eql_other hEb.unx.sen hEb.eof.sen (fun h => hEb.apart.eu h.symm)
      have s2 := eql_other hEb.chk.sen hEb.eof.sen (fun h => hEb.apart.ec h.symm)
      have HEB := Lib.hid hEb
      clear own' own2 fr' at' hEb
      have hcv' := run_convert_own 76 5 9 Tryz.underlying76 Tryz.underlying5 Tryz.underlying9 (ownsRow_below hSt3.out.own (Below.refl _ _).drew)
      rcases hL.out with ⟨h1⟩ | ⟨h1, h2, h3⟩ | ⟨h1, h2⟩
      · go_wp2_with fail
        go_region_with (go_at_call 38; refine (fault_any E N0 _ 4 _ HEB.out.drew .unx).mono ?_; rintro e w' ⟨rfl, rfl⟩)
        all_goals (
          go_wp2_with fail
          go_ret2
          exact ⟨_, 4, rfl, Lib.hid ⟨fun h => (Nat.succ_ne_zero _ h).elim, fun _ => rfl, fun h => absurd h h1, fun h => absurd h h1⟩, Lib.hid hSt3.out.fr.drew⟩)
      · go_wp2_with fail
        go_region_with (go_at_call 38; refine (fault_any E N0 _ 3 _ HEB.out.drew .chk).mono ?_; rintro e w' ⟨rfl, rfl⟩)
        all_goals (
          go_wp2_with fail
          go_ret2
          exact ⟨_, 3, rfl, Lib.hid ⟨fun h => (Nat.succ_ne_zero _ h).elim, fun h => absurd h1 h, fun _ _ _ => rfl, fun _ h => h.elim (fun h => absurd h h2) (fun h => absurd h h3)⟩, Lib.hid hSt3.out.fr.drew⟩)
      · go_wp2_with fail
        go_ret2
        refine ⟨_, 0, rfl, Lib.hid ⟨fun _ => ?_, fun h => absurd h1 h, fun _ h2' h3' => (h2.elim h2' h3').elim, fun _ _ => rfl⟩, Lib.hid hSt3.out.fr⟩
        rw [HMM.out]
        have e1 : T.take k ++ (T.drop k).take 512 = T.take (k + 512) := by rw [List.take_add]
        rw [e1]
        refine List.take_of_length_le ?_
        have h2 := congrArg List.length HMM.out
        rw [List.length_take, List.length_drop, HTL.out] at h2
        have := hlast.out
        rw [HTL.out]; omega
end Go.Proofs.Zip
namespace Go.Proofs.Zip
open Go Go.RowKit
theorem dirRead_any (q g len cap : Nat) (x : Addr) (w : World) (hq : Blk w q #[errv x] 173) : Calls Tryz.prog 213 #[.pointer (some ⟨q, 0, none⟩), .slice (some ⟨g, 0, none⟩) len cap] w fun e w' => e = .returned (.tuple #[.int .i64 0, errv x]) ∧ Fr (fun _ => False) w w' := by
  go_enter Tryz.func213, Tryz.ntmps213
  have c0 : w.cell? ⟨q, 0, none⟩ = some (errv x) := hq.cell 0
  go_wp2_with fail
  try go_region
  all_goals (try go_wp2)
  go_ret2
  exact ⟨rfl, by first | exact Fr.refl _ _ | exact (Fr.refl _ _).drew⟩
set_option maxRecDepth 100000 in
set_option maxHeartbeats 2000000 in
theorem allDir_any (q N0 : Nat) (E : Errs) (x : Addr) (n : Nat) (w : World) (hq : Blk w q #[errv x] 173) (hE : Env w N0 E) (hx : x = E.eof ∧ n = 0 ∨ x = E.fmt ∧ n = 1) :
    Calls Tryz.prog 41 #[dirv q] w fun e w' => e = .returned (.tuple #[.string (B []), .int .i64 n]) ∧ Fr (fun _ => False) w w' := by
  go_enter Tryz.func41, Tryz.ntmps41
  have HE := Lib.hid hE
  have HQ := Lib.hid hq
  have qlt := hq.lt
  clear hE hq
  go_wp2_with (refine wpList_make_bytes rfl _ _ rfl 512 rfl rfl (by decide) ?_)
  intro w1 cs hgb hcs hbl hlt
  obtain ⟨gb, hgbe⟩ : ∃ gb, gb = w.heap.size + 1 := ⟨_, rfl⟩
  rw [← hgbe] at hgb hbl hlt ⊢
  have hgb0 : w.heap.size < gb := by omega
  have hfr1 : Fr (fun _ => False) (w.alloc (.cells #[] 5)) w1 := Fr.of_below (by rw [World.size_alloc, ← hgbe]; exact hbl)
  have hst : AllSt w w1 (.slice (some ⟨w.heap.size, 0, none⟩) 0 0) gb (fun _ => False) cs [] := by
    refine ⟨ownsRow_fr (S := fun _ => False) ?_ hfr1 (fun _ h => h.elim), ?_, hgb, (((Fr.refl _ w).alloc _)).trans2 hfr1 (fun _ h => h) (fun _ h => h.elim)⟩
    · exact ⟨rfl, .inr ⟨_, 0, _, rfl, Nat.le_refl _, heap_alloc_last _ _, Nat.le_refl _, by decide, rfl, rfl⟩⟩
    · intro b hb e; simp [Value.ownBlock] at hb; omega
  have HST := Lib.hid hst
  clear hst hgb hbl hfr1 hlt hgbe
  go_wp2_with fail
  go_loopw [4] (fun v wr => v = .slice (some ⟨w.heap.size, 0, none⟩) 0 0 ∧ wr = w1) (fun v _ => 0)
  case atStart => exact ⟨rfl, rfl⟩
  case round =>
    obtain ⟨rfl, rfl⟩ := hrel
    have HR := Lib.hid (dirRead_any q gb 512 512 x wr (HST.out.fr.blk HQ.out id))
    have ceq := eql_same E.eof
    go_wp2_with fail
    refine HR.out.mono ?_
    rintro e wa ⟨rfl, hfa⟩
    have hsa : AllSt w wa (.slice (some ⟨w.heap.size, 0, none⟩) 0 0) gb (fun _ => False) cs [] := ⟨ownsRow_fr HST.out.own hfa (fun _ h => h.elim), HST.out.at_, hfa.blk HST.out.buf id, HST.out.fr.trans2 hfa (fun _ h => h) (fun _ h => h)⟩
    have HSA := Lib.hid hsa
    clear hsa hfa HR
    go_wp2_with (at_builtin; refine wpList_app_bytes rfl _ _ rfl w.heap.size _ [] rfl HSA.out.own gb 0 512 [] rfl rfl ?c1 ?c2 ?c3 ?_)
    case c1 => intro j v hj; simp [u8s] at hj
    case c2 => decide
    case c3 => exact HSA.out.fr.size
    intro v' wb own' fr' at'
    have own2 : wb.ownsRow w.heap.size 5 1 v' ([] ++ [] : List UInt8).length (u8s ([] ++ [])) := by simpa using own'
    have hSt3 := Lib.hid (HSA.out.app (by omega) own2 fr' at')
    have hEb := HE.out.fr hSt3.out.fr (fun _ h => h.elim)
    have ge : wb.cell? ⟨5, 0, none⟩ = some (errv E.eof) := hEb.eof.sen.cell
    have hcv := run_convert_own 76 5 9 Tryz.underlying76 Tryz.underlying5 Tryz.underlying9 hSt3.out.own
    have hcv' := run_convert_own 76 5 9 Tryz.underlying76 Tryz.underlying5 Tryz.underlying9 (ownsRow_below hSt3.out.own (Below.refl _ _).drew)
    have s1 := eql_other hEb.fmt.sen hEb.eof.sen hEb.apart.fe
    have HEB := Lib.hid hEb
    clear own' own2 fr' at' hEb
    rcases hx with ⟨rfl, rfl⟩ | ⟨rfl, rfl⟩
    · go_wp2_with fail
      go_ret2
      exact ⟨rfl, hSt3.out.fr⟩
    · go_wp2_with fail
      go_region_with (go_at_call 38; refine (fault_any E N0 _ 1 _ HEB.out.drew .fmt).mono ?_; rintro e w' ⟨rfl, rfl⟩)
      all_goals (
        go_wp2_with fail
        go_ret2
        exact ⟨rfl, hSt3.out.fr.drew⟩)
end Go.Proofs.Zip
namespace Go.Proofs.Zip
open Go Go.RowKit
theorem neq_other {a b : Addr} {w : World} {ga gb : Nat} (ha : Sen w ga a) (hb : Sen w gb b) (hne : a ≠ b) : (binOp .neq 56 (errv a) (errv b)).run Tryz.prog w = .ok (.bool true) w := by
  cases hi : Tryz.prog.info? 180 with
  | none => exact absurd hi (by have : (Tryz.prog.info? 180).isSome = true := by kernel_rfl
                                intro h; simp [h] at this)
  | some i =>
    cases hj : Tryz.prog.info? 182 with
    | none => exact absurd hj (by have : (Tryz.prog.info? 182).isSome = true := by kernel_rfl
                                  intro h; simp [h] at this)
    | some j =>
      have hc : (Tryz.prog.info? 180).map (·.comparable) = some true := by kernel_rfl
      have hz : (Tryz.prog.info? 182).map (·.size) = some 1 := by kernel_rfl
      rw [hi] at hc
      rw [hj] at hz
      obtain ⟨ca, ta, h1⟩ := ha.blk
      obtain ⟨cb, tb, h2⟩ := hb.blk
      simp only [binOp]
      simp [Op.equal, Op.maxDepth, run_equalIn_iface_ptr_other w 9998 Tryz.underlying56 Tryz.underlying180 hi (by simpa using hc) hj (by simp at hz; omega) hne h1 h2]
/-- What NewReader answers: a reader of the archive's files, or an error. -/
def NewPost (E : Errs) (a base : Nat) (comment : List UInt8) (hs : List (H × Nat)) (rec : Nat) (w : World) (e : Ending) (w' : World) : Prop :=
  (Hid (hs.length % 65536 = rec) ∧ ∃ rb, e = .returned (.tuple #[.pointer (some ⟨rb, 0, none⟩), .nilIface]) ∧ ∃ files ps C0 C, Hid (Arc w' rb a base C0 C comment files ps hs ∧ w.heap.size ≤ rb ∧ w.heap.size ≤ C0 ∧ w.heap.size ≤ C ∧ Below w.heap.size w w')) ∨
  (Hid (hs.length % 65536 ≠ rec) ∧ ∃ x n, e = .returned (.tuple #[.pointer none, errv x]) ∧ Hid (Fault E (errv x) n ∧ n ≠ 0) ∧ Hid (Below w.heap.size w w'))
theorem newZip_any (a base b k N0 : Nat) (D tl : List UInt8) (hs : List (H × Nat)) (E : Errs) (w : World) (hE : Env w N0 E) (ha : IsText w a D) (haN : N0 ≤ a) (ht : ArcText D b k base hs tl) :
    Calls Tryz.prog 32 #[textv a, .int .i64 D.length] w (NewPost E a base ((D.drop (D.length - b + k + 22)).take (n2 D (D.length - b + k + 20))) hs (n2 D (D.length - b + k + 10)) w) := by
  go_enter Tryz.func32, Tryz.ntmps32
  have hlen := ht.len
  have hle := hE.le
  have hal := ha.lt
  have hf0 : Fr (fun _ => False) w (w.alloc (.cells #[.nilIface, .slice none 0 0, .string ⟨#[]⟩, .map none, .int .i64 0] 66)) := (Fr.refl _ _).alloc _
  have HI := Lib.hid (init_any w.heap.size a base b k N0 D tl hs E _ (hE.fr hf0 (fun _ h => h.elim)) (hf0.blk ha id) haN (Blk.new _ _ _) hle (by omega) ht)
  have HE := Lib.hid hE
  clear hE ha ht hf0
  have hfw : Hid (∀ w', Fr (· = w.heap.size) (w.alloc (.cells #[.nilIface, .slice none 0 0, .string ⟨#[]⟩, .map none, .int .i64 0] 66)) w' → Below w.heap.size w w') := Lib.hid fun w' hf => ((Fr.refl (fun _ => False) w).alloc _).trans2 hf (U := (· = w.heap.size)) (fun _ h => h.elim) (fun _ h => h) |>.below (Nat.le_refl _) (fun i hi e => by omega)
  go_wp2_with fail
  refine HI.out.mono ?_
  rintro e w1 (⟨hc, rfl, files, ps, C0, C, hA⟩ | ⟨hc, he, hf⟩)
  · clear HI
    go_wp2_with fail
    go_ret2
    obtain ⟨h1, h2, h3, h4⟩ := hA.out
    rw [World.size_alloc] at h2 h3
    exact .inl ⟨hc, w.heap.size, rfl, files, ps, C0, C, Lib.hid ⟨h1, Nat.le_refl _, by omega, by omega, (hfw.out _ h4)⟩⟩
  · clear HI
    have hEb : Env w1 N0 E := HE.out.below (hfw.out _ hf.out)
    have gi : w1.cell? ⟨0, 0, none⟩ = some (errv E.ins) := hEb.ins.sen.cell
    have n1 := neq_other hEb.fmt.sen hEb.ins.sen hEb.apart.fi
    have n2 := neq_other hEb.unx.sen hEb.ins.sen hEb.apart.ui
    rcases he with rfl | rfl
    · go_wp2_with fail
      go_ret2
      exact .inr ⟨hc, E.fmt, 1, rfl, Lib.hid ⟨.fmt, by decide⟩, Lib.hid (hfw.out _ hf.out)⟩
    · go_wp2_with fail
      go_ret2
      exact .inr ⟨hc, E.unx, 4, rfl, Lib.hid ⟨.unx, by decide⟩, Lib.hid (hfw.out _ hf.out)⟩
/-- An archive that has no end. -/
theorem newZipNo_any (a N0 : Nat) (D : List UInt8) (E : Errs) (w : World) (hE : Env w N0 E) (ha : IsText w a D) (haN : N0 ≤ a) (hD : D.length ≤ 2305843009213693952) (hf : Found D none) :
    Calls Tryz.prog 32 #[textv a, .int .i64 D.length] w fun e w' => e = .returned (.tuple #[.pointer none, errv E.fmt]) ∧ Below w.heap.size w w' := by
  have hI : ∀ w' rb, Env w' N0 E → IsText w' a D → Calls Tryz.prog 59 #[.pointer (some ⟨rb, 0, none⟩), textv a, .int .i64 D.length] w' fun e w'' => e = .returned (errv E.fmt) ∧ Below w'.heap.size w' w'' := by
    intro w' rb hE' ha'
    go_enter Tryz.func59, Tryz.ntmps59
    have HD := Lib.hid (dirEnd_any D E N0 a 0 none w' hE' ha' haN hD hf (fun b' k' e => by cases e))
    clear hE' ha'
    go_wp2_with fail
    refine HD.out.mono ?_
    rintro e w1 ⟨rfl, hb1⟩
    go_wp2_with fail
    go_ret
    exact ⟨rfl, hb1⟩
  go_enter Tryz.func32, Tryz.ntmps32
  have hal := ha.lt
  have hf0 : Fr (fun _ => False) w (w.alloc (.cells #[.nilIface, .slice none 0 0, .string ⟨#[]⟩, .map none, .int .i64 0] 66)) := (Fr.refl _ _).alloc _
  have HI := Lib.hid (hI _ w.heap.size (hE.fr hf0 (fun _ h => h.elim)) (hf0.blk ha id))
  have HE := Lib.hid hE
  have HF0 := Lib.hid hf0
  clear hE ha hf0 hf hI
  go_wp2_with fail
  refine HI.out.mono ?_
  rintro e w1 ⟨rfl, hb1⟩
  have hb2 : Below w.heap.size w w1 := (HF0.out.trans2 (Fr.of_below (S := fun _ => False) hb1) (U := fun _ => False) (fun _ h => h) (fun _ h => h)).below (Nat.le_refl _) (fun _ _ h => h)
  have hEb : Env w1 N0 E := HE.out.below hb2
  have gi : w1.cell? ⟨0, 0, none⟩ = some (errv E.ins) := hEb.ins.sen.cell
  have n1 := neq_other hEb.fmt.sen hEb.ins.sen hEb.apart.fi
  have HB2 := Lib.hid hb2
  clear hb2 hb1 HI hEb
  go_wp2_with fail
  go_ret2
  exact ⟨rfl, HB2.out⟩
end Go.Proofs.Zip
namespace Go.Proofs.Zip
open Go Go.RowKit
theorem Arc.elem {w : World} {rb a base C0 C : Nat} {comment : List UInt8} {files : Value} {ps : List Value} {hs : List (H × Nat)} (h : Arc w rb a base C0 C comment files ps hs) {k : Nat} {x : H × Nat} (hk : hs[k]? = some x) :
    ∃ g cap p, files = .slice (some ⟨g, 0, none⟩) hs.length cap ∧ w.cell? ⟨g, k, none⟩ = some p ∧ FileIs w rb a base C files.ownBlock p x := by
  have hk1 : k < hs.length := (List.getElem?_eq_some_iff.1 hk).1
  obtain ⟨hpl, hps⟩ := h.fs
  obtain ⟨hl, ho⟩ := h.own
  rcases ho with ⟨_, h0⟩ | ⟨g, cap, cur, hv, hg, hh, hc, hm, hsz, htk⟩
  · omega
  · have hp : ps[k]? = some ps[k] := List.getElem?_eq_getElem (by omega)
    refine ⟨g, cap, ps[k], hv, ?_, hps k _ x hp hk⟩
    have := h.own.cells (g := g) (by rw [hv]; rfl) k _ hp
    rwa [add_at, Nat.zero_add] at this
/-- What file answers: a file of a reader of the archive. -/
def FilePost (base : Nat) (D comment : List UInt8) (_hs : List (H × Nat)) (x : H × Nat) (w : World) (e : Ending) (w' : World) : Prop :=
  ∃ f, e = .returned (.tuple #[.pointer (some ⟨f, 0, none⟩), .int .i64 0]) ∧ ∃ rb a files non t0 t1 t2 xv, Hid (fileAt w' f x.1 non t0 t1 t2 xv rb a (x.2 + base) ∧ Blk w' rb (rdrCells a files comment base) 66 ∧ IsText w' a D ∧ Below w.heap.size w w')
set_option maxRecDepth 100000 in
set_option maxHeartbeats 1000000 in
theorem file_any (base b k N0 kk : Nat) (D tl : List UInt8) (hs : List (H × Nat)) (x : H × Nat) (E : Errs) (w : World) (hE : Env w N0 E) (ht : ArcText D b k base hs tl) (hc : hs.length = n2 D (D.length - b + k + 10)) (hk : hs[kk]? = some x) :
    Calls Tryz.prog 36 #[.string (B D), .int .i64 kk] w (FilePost base D ((D.drop (D.length - b + k + 22)).take (n2 D (D.length - b + k + 20))) hs x w) := by
  have hlen := ht.len
  have hcnt := ht.cnt
  have hk1 : kk < hs.length := (List.getElem?_eq_some_iff.1 hk).1
  have hf0 : Fr (fun _ => False) w (w.alloc (.cells #[.string (B D), .int .i64 0, .int .i64 (-1)] 122)) := (Fr.refl _ _).alloc _
  have HN := Lib.hid (newZip_any w.heap.size base b k N0 D tl hs E _ (hE.fr hf0 (fun _ h => h.elim)) (Blk.new _ _ _) hE.le ht)
  have HC := Lib.hid hc
  have HK := Lib.hid hk
  have HF0 := Lib.hid hf0
  clear hE ht hc hk hf0
  go_enter Tryz.func36, Tryz.ntmps36
  go_wp2_with (go_at_call 33; refine (newText_any D w).mono ?_; rintro e w1 ⟨rfl, rfl⟩)
  refine HN.out.mono ?_
  rintro e w1 (⟨_, rb, rfl, files, ps, C0, C, hA⟩ | ⟨hn, _⟩)
  · obtain ⟨g, cap, p, hfl, hcell, hFI⟩ := hA.out.1.elem HK.out
    obtain ⟨f, t0, t1, t2, xv, rfl, hfa, _⟩ := hFI
    have hb1 := hA.out.2.2.2.2
    have hr := hA.out.1.rdr
    rw [hfl] at hr
    have c1 : w1.cell? ⟨rb, 1, none⟩ = some (.slice (some ⟨g, 0, none⟩) hs.length cap) := hr.cell 1
    have hta : IsText w1 w.heap.size D := below_blk hb1 (Blk.new _ _ _)
    have hbw : Below w.heap.size w w1 := (HF0.out.trans2 (Fr.of_below (S := fun _ => False) hb1) (U := fun _ => False) (fun _ h => h) (fun _ h => h)).below (Nat.le_refl _) (fun _ _ h => h)
    have FIN : Hid (fileAt w1 f x.1 (nonU x.1) t0 t1 t2 xv rb w.heap.size (x.2 + base) ∧ Blk w1 rb (rdrCells w.heap.size (.slice (some ⟨g, 0, none⟩) hs.length cap) ((D.drop (D.length - b + k + 22)).take (n2 D (D.length - b + k + 20))) base) 66 ∧ IsText w1 w.heap.size D ∧ Below w.heap.size w w1) := Lib.hid ⟨hfa, hr, hta, hbw⟩
    clear hA hfa hb1 hr hta hbw HN HC HK HF0
    go_wp2
    go_ret2
    exact ⟨f, rfl, rb, w.heap.size, _, _, _, _, _, _, FIN⟩
  · exfalso
    have := hn.out
    have := HC.out
    have := n2_lt D (D.length - b + k + 10)
    omega
/-- What Content answers of a file with the header h whose bytes are T. -/
def ContentIs (h : H) (T l : List UInt8) (n : Nat) : Prop :=
  (slash h.name = true → (h.size = 0 → l = [] ∧ n = 0) ∧ (h.size ≠ 0 → n = 1)) ∧
  (slash h.name = false → h.method ≠ 0 → n = 2) ∧
  (slash h.name = false → h.method = 0 → (n = 0 → l = T) ∧ (h.size ≠ (T.length : Int) → n = 4) ∧ (h.size = (T.length : Int) → h.crc ≠ 0 → (crc T : Int) ≠ h.crc → n = 3) ∧ (h.size = (T.length : Int) → (h.crc = 0 ∨ (crc T : Int) = h.crc) → n = 0))
def ContentPost (h : H) (T : List UInt8) (w : World) (e : Ending) (w' : World) : Prop := ∃ l n, e = .returned (.tuple #[.string (B l), .int .i64 (n : Nat)]) ∧ Hid (ContentIs h T l n) ∧ Hid (Below w.heap.size w w')
/-- What a file's content is. -/
structure FileText (D : List UInt8) (off body : Nat) (h : H) (T : List UInt8) : Prop where
  loc : LocalAt D off body
  nl : h.name.length ≤ 60000
  offl : off ≤ 2305843009213693952
  packed : 0 ≤ h.packed ∧ h.packed ≤ 4294967294
  size : h.size ≤ 4294967295
  stored : h.method = 0 → slash h.name = false → h.packed = (T.length : Int) ∧ (T.length : Int) ≤ h.size ∧ T.length ≤ 8388608 ∧ rest D (off + body) (off + body + T.length) = T ∧ off + body + T.length ≤ 2305843009213693952 ∧ (bits .and .u16 h.flags 8 != 0) = false
set_option maxRecDepth 100000 in
set_option maxHeartbeats 2000000 in
theorem content_any (base b k N0 kk body : Nat) (D tl T : List UInt8) (hs : List (H × Nat)) (x : H × Nat) (E : Errs) (w : World) (hE : Env w N0 E) (ht : ArcText D b k base hs tl) (hc : hs.length = n2 D (D.length - b + k + 10)) (hk : hs[kk]? = some x) (hT : FileText D (x.2 + base) body x.1 T) :
    Calls Tryz.prog 27 #[.string (B D), .int .i64 kk] w (ContentPost x.1 T w) := by
  have hlen := ht.len
  have HFL := Lib.hid (file_any base b k N0 kk D tl hs x E w hE ht hc hk)
  have HE := Lib.hid hE
  have HT := Lib.hid hT
  clear hE ht hc hk hT
  go_enter Tryz.func27, Tryz.ntmps27
  go_wp2_with fail
  refine HFL.out.mono ?_
  rintro e w1 ⟨f, rfl, rb, a, files, non, t0, t1, t2, xv, hF⟩
  obtain ⟨hfa, hrd, hta, hb1⟩ := hF.out
  have hE1 := HE.out.below hb1
  have HB1 := Lib.hid hb1
  have HO : Hid (Opn w1 f rb a (x.2 + base) body N0 x.1 non t0 t1 t2 xv D E files _ base) := Lib.hid ⟨hfa, hrd, hta, hE1, HT.out.loc, hlen, HT.out.nl, HT.out.offl, HT.out.packed⟩
  clear hF HFL hfa hrd hta hb1 hE1
  cases hsl : slash x.1.name
  · by_cases hm : x.1.method = 0
    · obtain ⟨s1, s2, s3, s4, s5, s6⟩ := HT.out.stored hm hsl
      have hsl' := hsl
      have HOP := Lib.hid (openStored_any w1 HO.out hsl hm s6)
      have HM := Lib.hid hm
      have HS := Lib.hid hsl
      clear hm hsl
      go_wp2_with fail
      refine HOP.out.mono ?_
      rintro e w2 ⟨q, s, hb, rfl, hP⟩
      obtain ⟨p1, p2, p3, p4, p5, p6, p7, p8, p9⟩ := hP.out
      have hE2 := HO.out.env.below p9
      have hle := HO.out.env.le
      have hfl := HO.out.file.lt
      have hal := HO.out.text.lt
      have hchk : Chk w2 q s hb f a (x.2 + base + body) 0 T.length D T := by
        refine ⟨p1, ?_, by rw [List.take_zero, crc_nil]; exact p3, below_blk p9 HO.out.text⟩
        rw [s1] at p2
        have e1 : (((x.2 + base : Nat) : Int) + (body : Int)) = ((x.2 + base + body : Nat) : Int) := by omega
        rw [e1] at p2
        have e2 : (((x.2 + base + body : Nat) : Int) + (T.length : Int)) = ((x.2 + base + body + T.length : Nat) : Int) := by omega
        rw [e2] at p2
        exact p2
      have HAL := Lib.hid (allChk_any q s hb f rb a (x.2 + base) (x.2 + base + body) T.length N0 x.1 non t0 t1 t2 xv D T E w2 hchk hE2 (below_blk p9 HO.out.file) s4 rfl s2 HT.out.size s5 s3 hlen (by omega) p7 p8 (by omega) (by omega))
      have HB2 : Hid (Below w.heap.size w w2) := Lib.hid (below_up HB1.out p9)
      have hge : Hid (w.heap.size ≤ s ∧ w.heap.size ≤ hb ∧ w.heap.size ≤ q) := Lib.hid (by have := HB1.out.size; omega)
      clear HOP hP p1 p2 p3 p4 p5 p6 p7 p8 p9 hE2 hchk s1 s2 s3 s4 s5 s6 hsl'
      go_wp2_with fail
      refine HAL.out.mono ?_
      rintro e w3 ⟨l, n, rfl, hn, hf3⟩
      clear HAL
      go_wp2_with fail
      go_ret2
      refine ⟨l, n, rfl, Lib.hid ⟨fun h => absurd h (by rw [HS.out]; simp), fun _ h => absurd HM.out h, fun _ _ => hn.out⟩, Lib.hid ?_⟩
      exact HB2.out.trans (hf3.out.below HB2.out.size (by have := hge.out; rintro i hi (e | e | e) <;> omega))
    · have HOP := Lib.hid (openMethod_any w1 HO.out hsl hm)
      have HM := Lib.hid hm
      have HS := Lib.hid hsl
      clear hm hsl
      go_wp2_with fail
      refine HOP.out.mono ?_
      rintro e w2 ⟨rfl, p9⟩
      have HE2 := Lib.hid (HO.out.env.below p9)
      have HB2 : Hid (Below w.heap.size w w2) := Lib.hid (below_up HB1.out p9)
      clear HOP p9
      go_wp2_with fail
      refine (fault_any E N0 _ 2 _ HE2.out .alg).mono ?_
      rintro e w3 ⟨rfl, rfl⟩
      go_wp2_with fail
      go_ret2
      exact ⟨[], 2, rfl, Lib.hid ⟨fun h => absurd h (by rw [HS.out]; simp), fun _ _ => rfl, fun _ h => absurd h HM.out⟩, HB2⟩
  · have HOP := Lib.hid (openSlash_any f rb a (x.2 + base) body N0 x.1 non t0 t1 t2 xv D E w1 HO.out.file HO.out.text HO.out.env HO.out.loc hlen HO.out.nl hsl)
    have HS := Lib.hid hsl
    clear hsl
    go_wp2_with fail
    refine HOP.out.mono ?_
    rintro e w2 ⟨q, rfl, hP⟩
    obtain ⟨p1, p2, p9⟩ := hP.out
    have hE2 := HO.out.env.below p9
    have HB2 : Hid (Below w.heap.size w w2) := Lib.hid (below_up HB1.out p9)
    by_cases hz : x.1.size = 0
    · rw [if_pos hz] at p1
      have HAL := Lib.hid (allDir_any q N0 E E.eof 0 w2 p1 hE2 (.inl ⟨rfl, rfl⟩))
      have HZ := Lib.hid hz
      clear hz p1 p2 p9 hE2 hP HOP
      go_wp2_with fail
      refine HAL.out.mono ?_
      rintro e w3 ⟨rfl, hf3⟩
      clear HAL
      go_wp2_with fail
      go_ret2
      exact ⟨[], 0, rfl, Lib.hid ⟨fun _ => ⟨fun _ => ⟨rfl, rfl⟩, fun h => absurd HZ.out h⟩, fun h => absurd h (by rw [HS.out]; simp), fun h => absurd h (by rw [HS.out]; simp)⟩, Lib.hid (HB2.out.trans (hf3.below HB2.out.size (fun _ _ h => h)))⟩
    · rw [if_neg hz] at p1
      have HAL := Lib.hid (allDir_any q N0 E E.fmt 1 w2 p1 hE2 (.inr ⟨rfl, rfl⟩))
      have HZ := Lib.hid hz
      clear hz p1 p2 p9 hE2 hP HOP
      go_wp2_with fail
      refine HAL.out.mono ?_
      rintro e w3 ⟨rfl, hf3⟩
      clear HAL
      go_wp2_with fail
      go_ret2
      exact ⟨[], 1, rfl, Lib.hid ⟨fun _ => ⟨fun h => absurd h HZ.out, fun _ => rfl⟩, fun h => absurd h (by rw [HS.out]; simp), fun h => absurd h (by rw [HS.out]; simp)⟩, Lib.hid (HB2.out.trans (hf3.below HB2.out.size (fun _ _ h => h)))⟩
end Go.Proofs.Zip
