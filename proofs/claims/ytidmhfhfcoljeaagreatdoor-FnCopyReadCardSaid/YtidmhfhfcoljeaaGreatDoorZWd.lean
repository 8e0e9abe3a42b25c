/- A part of a proof over the given program: Ic, Icp, Lw. Nothing is assumed here. -/
import Derived.Test.YtidmhfhfcoljeaaGreatDoorZWc
import Derived.Test.YtidmhfhfcoljeaaGreatDoorZU
import Derived.Test.YtidmhfhfcoljeaaGreatDoorZQ
import Derived.Test.YtidmhfhfcoljeaaGreatDoorZV
namespace Go.Proofs.Zip
open Go Go.RowKit
/-! io.Copy into a file of a Writer. -/
theorem assert_lr (s : Nat) (w : World) : (Instr.typeAssert (partv s) 89 249 true).run Tryz.prog w = .ok (.tuple #[.pointer none, .bool false]) w := by kernel_rfl
theorem assert_rfF (l : Nat) (w : World) : (Instr.typeAssert (.iface 132 (.pointer (some ⟨l, 0, none⟩))) 101 246 true).run Tryz.prog w = .ok (.tuple #[.nilIface, .bool false]) w := run_typeAssert_lacksB Tryz.underlying246 (by kernel_rfl) (by kernel_rfl) _ _ w
theorem assert_rfD (w : World) : (Instr.typeAssert (.iface 156 (.agg #[])) 101 246 true).run Tryz.prog w = .ok (.tuple #[.nilIface, .bool false]) w := run_typeAssert_lacksB Tryz.underlying246 (by kernel_rfl) (by kernel_rfl) _ _ w
theorem eql_nilsl (w : World) : (binOp .eql 76 (.slice none 0 0) (.slice none 0 0)).run Tryz.prog w = .ok (.bool true) w := by kernel_rfl
theorem nilAhead_fw (n a : Nat) (w : World) : (nilAhead (n + 1) 132 (.pointer (some ⟨a, 0, none⟩)) "Write").run Tryz.prog w = .ok (some false) w := by kernel_rfl
theorem blk_type {w : World} {b : Nat} {c1 c2 : Array Value} {t1 t2 : TypeId} (h1 : Blk w b c1 t1) (h2 : Blk w b c2 t2) : t1 = t2 := by
  have h1' : w.heap[b]? = some (.cells c1 t1) := h1
  have h2' : w.heap[b]? = some (.cells c2 t2) := h2
  rw [h1'] at h2'
  simp only [Option.some.injEq, Obj.cells.injEq] at h2'
  exact h2'.2.1
set_option maxRecDepth 100000 in
set_option maxHeartbeats 4000000 in
/-- To a directory: nothing. -/
theorem copyDir_any (s a off lim N0 : Nat) (base n : Int) (D : List UInt8) (E : Errs) (w : World) (hp : IsPart w s a base off lim n) (ha : IsText w a D) (hE : Env w N0 E) (hT : rest D off lim = []) (hlim : lim ≤ 2305843009213693952) (hD : D.length ≤ 2305843009213693952) (hs0 : N0 ≤ s) :
    Calls Tryz.prog 92 #[.iface 156 (.agg #[]), partv s, .slice none 0 0] w fun e w' => e = .returned (.tuple #[.int .i64 0, .nilIface]) ∧ Hid (Fr (fun b => b = s) w w') := by
  go_enter Tryz.func92, Tryz.ntmps92
  have HP := Lib.hid hp
  have HA := Lib.hid ha
  have HE := Lib.hid hE
  have slt := hp.lt
  have hN := hE.le
  have he1 := hE.eof.lt0
  have h1 := fun w => assert_wt s w
  have h2 := assert_rfD
  have h3 := fun w => assert_lr s w
  have h4 := eql_nilsl
  clear hp ha hE
  go_wp2_with (refine wpList_make_bytes rfl _ _ rfl 32768 rfl rfl (by decide) ?_)
  intro w1 cs hgb hcs hbl hlt
  have hP1 := below_blk hbl HP.out
  have hA1 := below_blk hbl HA.out
  have hE1 := HE.out.below hbl
  have hRR := partRead_any s a w.heap.size 0 32768 32768 off lim base n D cs 5 E.eof w1 hA1 hP1 hgb (by omega) hE1.eof.sen (by omega) (by have := HA.out.lt; omega) (by omega) (by decide) (Nat.le_refl _) (by decide) (by omega) (by omega)
  rw [hT] at hRR
  obtain ⟨r, _, hr2, hR⟩ := hRR
  obtain rfl := hr2 rfl
  have HR := Lib.hid hR
  have HB := Lib.hid hbl
  clear hr2 hR hgb hP1 hA1 hE1 hbl h1 h2 h3 h4
  go_wp2_with fail
  go_loopw [6, 7] (fun t6 t7 wr => t6 = .int .i64 0 ∧ t7 = .nilIface ∧ wr = w1) (fun _ _ _ => 0)
  case atStart => exact ⟨rfl, rfl, rfl⟩
  case round =>
    obtain ⟨rfl, rfl, rfl⟩ := hrel
    go_wp2_with fail
    refine HR.out.mono ?_
    rintro e wa ⟨rfl, hB, hP2, hF⟩
    have hEb := HE.out.fr (Fr.trans2 (Fr.of_below (S := fun b => b = w.heap.size ∨ b = s) HB.out) hF (U := fun b => b = w.heap.size ∨ b = s) (fun _ h => h) (fun _ h => h)) (by rintro b (e | e) <;> omega)
    have ge : wa.cell? ⟨5, 0, none⟩ = some (errv E.eof) := hEb.eof.sen.cell
    have ceq := neq_same E.eof
    have FIN : Hid (Fr (fun b => b = s) w wa) := Lib.hid ((Fr.of_below (S := fun b => b = s) HB.out).trans hF (fun b hb e => e.elim (fun e => by omega) id))
    clear hB hP2 hF hEb HR
    go_wp2
    go_ret2
    exact ⟨rfl, FIN⟩
set_option maxRecDepth 100000 in
set_option maxHeartbeats 40000000 in
/-- To a file: all. -/
theorem copyFile_any {C0 : Nat} {O : Wr} {z : Nat} {ps : List Pc} {h : H} {ob db : Option Nat} {l : Nat} {es : List Ent} {lv : Value} (s a off lim N0 : Nat) (base n : Int) (D T : List UInt8) (E : Errs) (w : World) (k : RwO C0 w O z ps h [] ob db (some l) es lv) (hp : IsPart w s a base off lim n) (ha : IsText w a D) (hE : Env w N0 E) (hT : rest D off lim = T) (hTl : T.length ≤ 1048576) (_hol : off ≤ 2305843009213693952) (hlim : lim ≤ 2305843009213693952) (hD : D.length ≤ 2305843009213693952) (hC : N0 ≤ C0 ∧ a < C0 ∧ C0 ≤ s) (hsz : ¬ Zall O ob z db (some l) s) (hsE : ∀ e ∈ es, ∀ d, e.x.ownBlock = some d → d ≠ s) (hpl : (pcsL (ps ++ [rawP h []])).length ≤ 70368744177664) :
    Calls Tryz.prog 92 #[.iface 132 (.pointer (some ⟨l, 0, none⟩)), partv s, .slice none 0 0] w fun e w' => e = .returned (.tuple #[.int .i64 T.length, .nilIface]) ∧ ∃ ob', Hid (RwO C0 w' O z ps h T ob' db (some l) es lv ∧ Below C0 w w') := by
  go_enter Tryz.func92, Tryz.ntmps92
  have HP := Lib.hid hp
  have HA := Lib.hid ha
  have HE := Lib.hid hE
  have HK := Lib.hid k
  have HT := Lib.hid hT
  have slt := hp.lt
  have hN := hE.le
  have he1 := hE.eof.lt0
  have HC := Lib.hid hC
  have HS := Lib.hid (And.intro hsz hsE)
  have HPL := Lib.hid hpl
  have hlr : ∀ D', (pcsL (ps ++ [rawP h D'])).length = (pcsL (ps ++ [rawP h []])).length + D'.length := fun D' => by rw [pcsL_rawlen, pcsL_rawlen]; simp; omega
  have HLR := Lib.hid hlr
  have h1 := fun w => assert_wt s w
  have h2 := fun w => assert_rfF l w
  have h3 := fun w => assert_lr s w
  have h4 := eql_nilsl
  clear hp ha hE k hT hC hsz hsE hpl hlr
  go_wp2_with (refine wpList_make_bytes rfl _ _ rfl 32768 rfl rfl (by decide) ?_)
  intro w1 cs hgb hcs hbl hlt
  obtain ⟨g, hg⟩ : ∃ g, g = w.heap.size := ⟨_, rfl⟩
  rw [← hg] at hgb hlt ⊢
  have HG := Lib.hid (And.intro hg (And.intro (HK.out.zk.lt) (fun e he => (HK.out.zk.ent e he).hd.bx.lt)))
  have ST : Hid (RwO C0 w1 O z ps h [] ob db (some l) es lv ∧ IsPart w1 s a base off lim n ∧ Blk w1 g cs 5 ∧ (∀ b, b = g ∨ b = s → ¬ Zall O ob z db (some l) b ∧ b < w1.heap.size) ∧ Below C0 w w1) := Lib.hid ⟨HK.out.next hbl, below_blk hbl HP.out, hgb, fun b hb => by
    rcases hb with rfl | rfl
    · exact ⟨fun e => by have := HK.out.zk.lt _ e; omega, hlt⟩
    · exact ⟨HS.out.1, by have := hbl.size; omega⟩, hbl.mono (by have := HC.out; omega)⟩
  clear hgb hbl h1 h2 h3 h4 hg
  go_wp2_with fail
  go_loopw [6, 7] (fun t6 t7 wr => ∃ (k : Nat) (cur : Array Value) (ob' : Option Nat), t6 = .int .i64 k ∧ t7 = .nilIface ∧ k ≤ T.length ∧ cur.size = 32768 ∧ Hid (RwO C0 wr O z ps h (T.take k) ob' db (some l) es lv ∧ IsPart wr s a base ((off + k : Nat) : Int) lim n ∧ Blk wr g cur 5 ∧ (∀ b, b = g ∨ b = s → ¬ Zall O ob' z db (some l) b ∧ b < wr.heap.size) ∧ Below C0 w wr)) (fun t6 _ _ => T.length - (intOf t6).toNat)
  case atStart => exact ⟨0, cs, ob, rfl, rfl, Nat.zero_le _, hcs, by rw [List.take_zero, Nat.add_zero]; exact ST⟩
  case round =>
    obtain ⟨k, cur, ob1, rfl, rfl, hk, hcur, hSt⟩ := hrel
    have hAr : IsText wr a D := by
      have := (hSt.out.2.2.2.2).block a HC.out.2.1
      have h2 : w.heap[a]? = _ := HA.out
      show wr.heap[a]? = _
      rw [this, h2]
    have hEr : Env wr N0 E := HE.out.fr (S := fun b => C0 ≤ b) ⟨hSt.out.2.2.2.2.os, hSt.out.2.2.2.2.tape, hSt.out.2.2.2.2.output, hSt.out.2.2.2.2.size, fun i hi hn => hSt.out.2.2.2.2.block i (by omega)⟩ (fun b hb => by have := HC.out.1; omega)
    have gne : g ≠ s := fun e => by have := HG.out.1; omega
    have gna : g ≠ a := fun e => by have := HG.out.1; have := HA.out.lt; omega
    have hRR := partRead_any s a g 0 32768 32768 (off + k) lim base n D cur 5 E.eof wr hAr hSt.out.2.1 hSt.out.2.2.1 (by omega) hEr.eof.sen (by have := HG.out.1; omega) gna gne (by decide) (Nat.le_refl _) (by decide) (by omega) (by omega)
    rw [rest_drop, HT.out] at hRR
    obtain ⟨M, hM⟩ : ∃ M, M = (T.drop k).take 32768 := ⟨_, rfl⟩
    rw [← hM] at hRR
    obtain ⟨r, hr1, hr2, hR⟩ := hRR
    have HMM := Lib.hid hM
    have HR := Lib.hid hR
    have hml := congrArg List.length hM
    rw [List.length_take, List.length_drop] at hml
    have HML := Lib.hid hml
    have hml1 : M.length ≤ 32768 := by omega
    have hml2 : k + M.length ≤ T.length := by omega
    have htk : Hid (T.take k ++ M = T.take (k + M.length)) := Lib.hid (by
      rw [List.take_add]
      congr 1
      rw [hM, List.take_eq_take_iff]; simp)
    clear hml hR hM
    -- what a read leaves
    have RD : Hid (∀ wa, Blk wa g (put cur 0 M) 5 → IsPart wa s a base ((off + k : Nat) + M.length : Nat) lim n → Fr (fun b => b = g ∨ b = s) wr wa → RwO C0 wa O z ps h (T.take k) ob1 db (some l) es lv ∧ Below C0 w wa ∧ Env wa N0 E) := Lib.hid fun wa _ _ hF => by
      have hlo : ∀ b, b = g ∨ b = s → C0 ≤ b := by
        have := HC.out
        have := HG.out.1
        rintro b (e | e) <;> omega
      refine ⟨hSt.out.1.fr hF (fun b hb hS => (hSt.out.2.2.2.1 b hS).1 hb) (fun e he => ?_) (fun hb f o hbl hS => ?_), hSt.out.2.2.2.2.trans (hF.below (by have := hSt.out.2.2.2.2.size; have := HC.out; omega) (fun i hi hS => by have := hlo i hS; omega)), hEr.fr hF (fun b hb => by have := hlo b hb; have := HC.out; omega)⟩
      · have hent := hSt.out.1.zk.ent e he
        refine ⟨?_, ?_, fun d hd => ?_⟩
        · rintro (e2 | e2)
          · have hh := hent.hd.bh
            rw [e2] at hh
            have := blk_type hh hSt.out.2.2.1
            simp at this
          · have hh := hent.hd.bh
            rw [e2] at hh
            have := blk_type hh hSt.out.2.1
            simp at this
        · rintro (e2 | e2)
          · have hh := hent.hd.bf
            rw [e2] at hh
            have := blk_type hh hSt.out.2.2.1
            simp at this
          · have hh := hent.hd.bf
            rw [e2] at hh
            have := blk_type hh hSt.out.2.1
            simp at this
        · rintro (e2 | e2)
          · have := HG.out.2.2 e he d hd
            have := HG.out.1
            omega
          · exact HS.out.2 e he d hd e2
      · rcases hS with e2 | e2
        · rw [e2] at hbl
          have := blk_type hbl hSt.out.2.2.1
          simp at this
        · rw [e2] at hbl
          have := blk_type hbl hSt.out.2.1
          simp at this
    -- what a write leaves
    have WR : Hid (∀ wa, Blk wa g (put cur 0 M) 5 → IsPart wa s a base ((off + k : Nat) + M.length : Nat) lim n → Fr (fun b => b = g ∨ b = s) wr wa → ∀ wb, Fr (fun _ => False) wa wb → Calls Tryz.prog 203 #[.pointer (some ⟨l, 0, none⟩), .slice (some ⟨g, 0, none⟩) M.length 32768] wb fun e wc => e = .returned (.tuple #[.int .i64 M.length, .nilIface]) ∧ ∃ ob', Hid (RwO C0 wc O z ps h (T.take (k + M.length)) ob' db (some l) es lv ∧ IsPart wc s a base ((off + (k + M.length) : Nat) : Int) lim n ∧ Blk wc g (put cur 0 M) 5 ∧ (∀ b, b = g ∨ b = s → ¬ Zall O ob' z db (some l) b ∧ b < wc.heap.size) ∧ Below C0 w wc ∧ Env wc N0 E)) := Lib.hid fun wa hB hP2 hF wb hf => by
      obtain ⟨r1, r2, r3⟩ := RD.out wa hB hP2 hF
      have r1b := r1.fr hf (fun _ _ => id) (fun _ _ => ⟨id, id, fun _ _ => id⟩) (fun _ _ _ _ => id)
      have hBb := hf.blk hB id
      have hPb := hf.blk hP2 id
      have gz := hSt.out.2.2.2.1
      have hlen2 : (pcsL (ps ++ [rawP h (T.take k)])).length + M.length ≤ 140737488355328 := by
        rw [HLR.out, List.length_take]
        have := HPL.out
        omega
      refine (r1b.write (.slice (some ⟨g, 0, none⟩) M.length 32768) M (.inr ⟨g, 0, 32768, rfl, hBb.lt, hml1, hBb.range ?_⟩) (fun d hd => by
        have hd2 : g = d := Option.some.inj hd
        subst hd2
        intro e; exact (gz _ (.inl rfl)).1 (.inl e)) hlen2).mono ?_
      · have := put_range cur 0 M (by omega)
        rw [length_u8s]; exact this
      · rintro e wc ⟨rfl, ob', hh⟩
        obtain ⟨a1, a2, a3⟩ := hh.out
        have hsb : wr.heap.size ≤ wb.heap.size := Nat.le_trans hF.size hf.size
        have nz : ∀ b, b = g ∨ b = s → ¬ O.all ob1 b := fun b hb e => (gz b hb).1 (.inl e)
        refine ⟨rfl, ob', Lib.hid ⟨by rw [← htk.out]; exact a1, ?_, a3.blk hBb (nz g (.inl rfl)), fun b hb => ⟨fun e => ?_, ?_⟩, ?_, ?_⟩⟩
        · have := a3.blk hPb (nz s (.inr rfl))
          rw [← Nat.add_assoc]; exact this
        · exact (gz b hb).1 (zall_back a2 b (by have := (gz b hb).2; omega) e)
        · have := (gz b hb).2
          have := a3.size
          omega
        · have hb1 : Below C0 w wb := r2.trans (hf.below (by have := r2.size; have := HC.out; omega) (fun _ _ h => h))
          exact hb1.trans (a3.below (by have := hb1.size; have := HC.out; omega) (fun i hi e => by have := r1b.lo.2 i (.inl e); omega))
        · exact (r3.fr hf (fun _ h => h.elim)).fr a3 (fun b hb => by have := r1b.lo.2 b (.inl hb); have := HC.out; omega)
    have ceq := neq_same E.eof
    rcases hr1 with rfl | ⟨rfl, hlast⟩
    · have hne : T.drop k ≠ [] := fun h => by have := hr2 h; cases this
      have hlt2 : k < T.length := by
        apply Classical.byContradiction
        intro h
        exact hne (List.drop_eq_nil_of_le (by omega))
      have hm0 : 0 < M.length := by have := HML.out; omega
      clear hr2 hne hAr hEr
      go_wp2_with fail
      refine HR.out.mono ?_
      rintro e wa ⟨rfl, hB, hP2, hF⟩
      have HW := Lib.hid (WR.out wa hB (by simpa using hP2) hF)
      clear HR hB hP2 hF WR RD hSt
      have hna := fun n w => nilAhead_fw n l w
      go_upto_region 17 with fail
      go_region_with (go_at_call 203; refine (HW.out _ ?hh).mono ?_; (case hh => exact (Fr.refl _ _).drew); rintro e wc ⟨rfl, ob', hc⟩)
      all_goals (
        clear HW
        go_wp2
        exact ⟨⟨k + M.length, put cur 0 M, ob', by go_num, rfl, by omega, by rw [size_put _ _ _ (by omega)]; exact hcur, Lib.hid ⟨hc.out.1, hc.out.2.1, hc.out.2.2.1, hc.out.2.2.2.1, hc.out.2.2.2.2.1⟩⟩, by simp [intOf]; omega⟩)
    · have hfin : k + M.length = T.length := by
        have h3 := congrArg List.length hlast
        have := HML.out
        simp only [List.length_drop, List.length_nil] at h3
        omega
      have HFIN := Lib.hid hfin
      clear hr2 hlast hAr hEr hfin
      by_cases hm0 : M.length = 0
      · go_wp2_with fail
        refine HR.out.mono ?_
        rintro e wa ⟨rfl, hB, hP2, hF⟩
        obtain ⟨r1, r2, r3⟩ := RD.out wa hB (by simpa using hP2) hF
        have FIN : Hid (RwO C0 wa O z ps h T ob1 db (some l) es lv ∧ Below C0 w wa) := Lib.hid ⟨by
          have e1 : T.take k = T := List.take_of_length_le (by have := HFIN.out; omega)
          rw [e1] at r1; exact r1, r2⟩
        have ge : wa.cell? ⟨5, 0, none⟩ = some (errv E.eof) := r3.eof.sen.cell
        have hkT : Hid (k = T.length) := Lib.hid (by have := HFIN.out; omega)
        rw [hm0]
        clear HR hB hP2 hF WR RD hSt r1 r2 r3 hm0
        go_wp2
        go_ret2
        exact ⟨by rw [hkT.out]; rfl, ob1, FIN⟩
      · have hm1 : 0 < M.length := by omega
        go_wp2_with fail
        refine HR.out.mono ?_
        rintro e wa ⟨rfl, hB, hP2, hF⟩
        have HW := Lib.hid (WR.out wa hB (by simpa using hP2) hF)
        clear HR hB hP2 hF WR RD hSt hm0
        have hna := fun n w => nilAhead_fw n l w
        go_upto_region 17 with fail
        go_region_with (go_at_call 203; refine (HW.out _ ?hh).mono ?_; (case hh => exact (Fr.refl _ _).drew); rintro e wc ⟨rfl, ob', hc⟩)
        all_goals (
          have ge : wc.cell? ⟨5, 0, none⟩ = some (errv E.eof) := hc.out.2.2.2.2.2.eof.sen.cell
          have FIN : Hid (RwO C0 wc O z ps h T ob' db (some l) es lv ∧ Below C0 w wc) := Lib.hid ⟨by
            have r1 := hc.out.1
            rw [HFIN.out, List.take_length] at r1; exact r1, hc.out.2.2.2.2.1⟩
          clear HW hc
          go_wp2
          go_ret2
          exact ⟨by rw [← HFIN.out]; go_num, ob', FIN⟩)
end Go.Proofs.Zip
namespace Go.Proofs.Zip
open Go Go.RowKit
/-! Writer.Copy, impl.Copy. -/
theorem sizesFH : (Tryz.prog.info? 78).map (fun i => (i.size, i.zero.map (·.cells.size))) = some (19, some 19) := by kernel_rfl
theorem sizeFH : (Tryz.prog.info? 78).map (·.size) = some 19 := by kernel_rfl
abbrev hdrList (h : H) (non : Bool) (t0 t1 t2 x : Value) (c u : Int) : List Value := [.string (B h.name), .string (B h.comment), .bool non, .int .u16 h.creator, .int .u16 h.reader, .int .u16 h.flags, .int .u16 h.method, t0, t1, t2, .int .u16 h.time, .int .u16 h.date, .int .u32 h.crc, .int .u32 c, .int .u32 u, .int .u64 h.packed, .int .u64 h.size, x, .int .u32 h.ext]
/-- A part that is read is no block of a Writer's. -/
theorem RwO.frPart {C0 : Nat} {w w' : World} {O : Wr} {z : Nat} {ps : List Pc} {h : H} {D : List UInt8} {ob db lw : Option Nat} {es : List Ent} {lv : Value} (k : RwO C0 w O z ps h D ob db lw es lv) (s a : Nat) (base off lim n : Int) (hp : IsPart w s a base off lim n) (hf : Fr (fun b => b = s) w w') (hz : ¬ Zall O ob z db lw s) (hx : ∀ e ∈ es, ∀ d, e.x.ownBlock = some d → d ≠ s) : RwO C0 w' O z ps h D ob db lw es lv := by
  refine k.fr hf (fun b hb hS => hz (hS ▸ hb)) (fun e he => ?_) (fun hb f o hbl hS => ?_)
  · have hent := k.zk.ent e he
    refine ⟨fun e2 => ?_, fun e2 => ?_, fun d hd => hx e he d hd⟩
    · have hh := hent.hd.bh
      rw [e2] at hh
      have := blk_type hh hp
      simp at this
    · have hh := hent.hd.bf
      rw [e2] at hh
      have := blk_type hh hp
      simp at this
  · rw [hS] at hbl
    have := blk_type hbl hp
    simp at this
set_option maxRecDepth 100000 in
set_option maxHeartbeats 4000000 in
theorem wcopy_any {C0 N0 : Nat} {O : Wr} {z : Nat} {ps : List Pc} {f rb a off body : Nat} {h : H} {non : Bool} {t0 t1 t2 x : Value} {D T : List UInt8} {E : Errs} {files : Value} {comment : List UInt8} {base : Int} (w : World) (k : RwS C0 w O z ps) (o : Opn w f rb a off body N0 h non t0 t1 t2 x D E files comment base) (ht : t0.oneCell' = true ∧ t1.oneCell' = true ∧ t2.oneCell' = true) (hok : HOk h) (hfl : (bits .and .u16 h.flags 8 != 0) = false) (hx : IsBytes w x h.extra) (hxc : ∀ d, x.ownBlock = some d → d < C0) (hC : N0 ≤ C0 ∧ a < C0 ∧ f < C0) (hpk : h.packed = (T.length : Int)) (hT : rest D (off + body) (off + body + T.length) = T) (hTl : T.length ≤ 1048576) (hoff : off + body + T.length ≤ 2305843009213693952) (hsl : slash h.name = true → T = []) (hlen : (pcsL ps).length ≤ 4294967294) (hcnt : ps.length + 1 ≤ 100000) :
    Calls Tryz.prog 43 #[.pointer (some ⟨z, 0, none⟩), .pointer (some ⟨f, 0, none⟩)] w fun e w' => e = .returned .nilIface ∧ Hid (RwS C0 w' O z (ps ++ [rawP h T]) ∧ Below C0 w w') := by
  have HC0 : Hid (C0 ≤ w.heap.size) := Lib.hid (by
    obtain ⟨ob, db, lw, es, lv, h1, _, _, h4⟩ := k
    have := h4 z (.inr (.inl rfl))
    have := h1.lt z (.inr (.inl rfl))
    omega)
  have hx1 : x.oneCell' = true := by
    rcases hx with ⟨rfl, _⟩ | ⟨d, o, cap, rfl, _⟩ <;> rfl
  have hall : (hdrList h non t0 t1 t2 x h.packed h.size).all (·.oneCell') = true := by
    simp only [hdrList, List.all_cons, List.all_nil, ht.1, ht.2.1, ht.2.2, hx1, Bool.and_true, Bool.true_and]
    rfl
  have HALL := Lib.hid hall
  have HOR := Lib.hid (openRaw_any w o)
  have HK := Lib.hid k
  have HO := Lib.hid o
  have HX := Lib.hid (And.intro hx (And.intro hxc hC))
  have HT := Lib.hid (And.intro hpk hT)
  have HH := Lib.hid (And.intro hok hfl)
  have HSL := Lib.hid hsl
  clear k o hx hxc hC hpk hT hok hfl hsl hx1 hall ht
  go_enter Tryz.func43, Tryz.ntmps43
  go_wp2_with fail
  refine HOR.out.mono ?_
  rintro e w1 ⟨s, rfl, h1⟩
  have hf1 := below_blk h1.out.2.2 HO.out.file
  have hr : w1.rangeAt f 0 (hdrList h non t0 t1 t2 x h.packed h.size) := hf1.range (by rfl)
  have HW1 := Lib.hid h1.out
  have hs1 := h1.out.2.1
  have hsl1 := h1.out.1.lt
  have hsz1 := h1.out.2.2.size
  have BW : Below w.heap.size w (w1.alloc (.cells (hdrCells h non t0 t1 t2 x h.packed h.size) 78)) := h1.out.2.2.alloc hsz1 _
  have F12 : Fr (fun _ => False) w1 (w1.alloc (.cells (hdrCells h non t0 t1 t2 x h.packed h.size) 78)) := (Fr.refl _ w1).alloc _
  have HBW := Lib.hid BW
  have HP2 := Lib.hid (F12.blk h1.out.1 id)
  have HCR := Lib.hid (HK.out.create BW w1.heap.size h non t0 t1 t2 x h.packed h.size (Blk.new _ _ _) (HX.out.1.fr (Fr.of_below (S := fun _ => False) BW) (fun _ _ => id)) HH.out.1 HH.out.2 hsz1 (fun d hd => ⟨.inl (HX.out.2.1 d hd), by have := HX.out.2.1 d hd; have := HC0.out; omega⟩) hlen hcnt)
  clear hf1 h1 BW F12 HOR HK
  go_wp2_with (first
    | (refine wpList_load_mid rfl 78 _ rfl f 0 rfl (hdrList h non t0 t1 t2 x h.packed h.size) _ hr Tryz.underlying78 rfl sizeFH ?_)
    | (refine wpList_alloc_store 78 _ _ (hdrList h non t0 t1 t2 x h.packed h.size) rfl rfl rfl rfl rfl rfl sizesFH HALL.out ?_))
  refine HCR.out.mono ?_
  rintro r w3 ⟨ob3, db3, lw3, es3, lv3, rfl, h3⟩
  obtain ⟨hO3, hF3, hap⟩ := h3.out
  have hs2 := hap s hs1 (by rw [World.size_alloc]; omega)
  have hxs : ∀ e ∈ es3, ∀ d, e.x.ownBlock = some d → d ≠ s := hs2.2 (by omega) (fun d hd => by have := HX.out.2.1 d hd; have := HC0.out; omega)
  have hb3 : Below C0 w w3 := (HBW.out.mono HC0.out).trans (hF3.below (by have := HBW.out.size; have := HC0.out; omega) (fun i hi => by have := HC0.out; omega))
  have HB3 := Lib.hid hb3
  have HP3 := Lib.hid (hF3.blk HP2.out (by omega))
  have HA3 : Hid (IsText w3 a D) := Lib.hid (by
    have := hb3.block a HX.out.2.2.2.1
    have h2 : w.heap[a]? = _ := HO.out.text
    show w3.heap[a]? = _
    rw [this, h2])
  have HE3 : Hid (Env w3 N0 E) := Lib.hid (HO.out.env.fr (S := fun b => C0 ≤ b) ⟨hb3.os, hb3.tape, hb3.output, hb3.size, fun i hi hn => hb3.block i (by omega)⟩ (fun b hb => by have := HX.out.2.2.1; omega))
  have HO3 := Lib.hid hO3
  have HS2 := Lib.hid (And.intro hs2.1 hxs)
  have hbody : (off : Int) + (body : Int) = ((off + body : Nat) : Int) := by omega
  have hlim : (off : Int) + (body : Int) + h.packed = ((off + body + T.length : Nat) : Int) := by rw [HT.out.1]; omega
  rw [hlim, hbody] at HP3
  have hDl := HO.out.len
  have hsC : C0 ≤ s := by have := HC0.out; omega
  have hN0 := HX.out.2.2
  have hcs := hO3.sl
  have HLIM := Lib.hid hlim
  clear h3 hO3 hF3 hap hs2 hxs hb3 hr HP2 HCR hbody hlim
  cases lw3 with
  | none =>
    have hT0 : T = [] := HSL.out (hcs.2 rfl)
    have HCB := Lib.hid (copyDir_any s a (off + body) (off + body + T.length) N0 _ _ D E w3 HP3.out HA3.out HE3.out (by rw [HT.out.2]; exact hT0) (by omega) hDl (by omega))
    have HT0 := Lib.hid hT0
    clear hT0 hcs
    dsimp only [rawOut]
    go_wp2_with (go_at_call 65; go_in)
    refine HCB.out.mono ?_
    rintro r w4 ⟨rfl, h4⟩
    have FIN : Hid (RwS C0 w4 O z (ps ++ [rawP h T]) ∧ Below C0 w w4) := Lib.hid ⟨by
      rw [HT0.out]
      exact (HO3.out.frPart s a _ _ _ _ HP3.out h4.out HS2.out.1 HS2.out.2).done, HB3.out.trans (h4.out.below (by have := HB3.out.size; have := HC0.out; omega) (fun i hi e => by omega))⟩
    clear h4 HCB
    go_wp2
    go_ret
    exact ⟨rfl, FIN⟩
  | some l =>
    have HCB := Lib.hid (copyFile_any s a (off + body) (off + body + T.length) N0 _ _ D T E w3 HO3.out HP3.out HA3.out HE3.out HT.out.2 hTl (by omega) (by omega) hDl ⟨hN0.1, hN0.2.1, hsC⟩ HS2.out.1 HS2.out.2 (by
      have := HH.out.1.name
      have := HH.out.1.extra
      rw [pcsL_rawlen, length_localL]
      simp only [List.length_nil]
      omega))
    clear hcs
    dsimp only [rawOut]
    go_wp2_with (go_at_call 65; go_in)
    refine HCB.out.mono ?_
    rintro r w4 ⟨rfl, ob4, h4⟩
    have FIN : Hid (RwS C0 w4 O z (ps ++ [rawP h T]) ∧ Below C0 w w4) := Lib.hid ⟨h4.out.1.done, HB3.out.trans h4.out.2⟩
    clear h4 HCB
    go_wp2
    go_ret
    exact ⟨rfl, FIN⟩
/-- The pieces of entries are their archive. -/
theorem rawPs_files (es : List E) : pcsL (rawPs es) = filesL es := by
  unfold pcsL rawPs filesL
  rw [List.flatMap_map]
  congr 1
  funext e
  simp [Pc.text]
theorem hsP_raw (es : List E) : ∀ a, hsP (rawPs es) a = hsOf es a := by
  induction es with
  | nil => intro a; rfl
  | cons e es ih =>
    intro a
    have h := ih (a + ((localL e.hdr).length + e.data.length))
    unfold rawPs at h ⊢
    simp only [List.map_cons, hsP, hsOf]
    rw [← h]
    simp [Pc.text]
theorem arcP_raw (es : List E) (c : List UInt8) (h : (filesL es).length < 4611686018427387904) : arcP (rawPs es) c = archiveL es c := by
  unfold arcP archiveL
  have h0 : dirL es 0 = catL (hsOf es 0) := dirL_catL es 0 (by omega)
  rw [rawPs_files, hsP_raw, h0]
  unfold rawPs
  rw [List.length_map]
theorem rawPs_ok {es : List E} {c : List UInt8} (hg : goodB es c = true) (hpk : ∀ e ∈ es, e.hdr.packed = (e.data.length : Int)) : ∀ p ∈ rawPs es, PcOk p := by
  intro p hp
  obtain ⟨e, he, rfl⟩ := List.mem_map.1 hp
  have hok : entryOk e = true := List.all_eq_true.1 (good_parts hg).1 _ he
  simp only [entryOk, Bool.and_eq_true, decide_eq_true_eq] at hok
  have hh := HOk.of hok.1
  exact ⟨hok.1, hh.name, hh.extra, hok.2, by simp, hpk e he⟩
set_option maxRecDepth 100000 in
set_option maxHeartbeats 8000000 in
theorem copy_any {N0 : Nat} {E0 : Errs} {es : List E} {c : List UInt8} (w : World) (hE : Env w N0 E0) (hg : goodB es c = true) (hpk : ∀ e ∈ es, e.hdr.packed = (e.data.length : Int)) (hfl : ∀ e ∈ es, (bits .and .u16 e.hdr.flags 8 != 0) = false) (hdr : ∀ e ∈ es, slash e.hdr.name = true → e.data = []) :
    Calls Tryz.prog 20 #[.string (B (archiveL es c))] w fun e w' => e = .returned (.tuple #[.string (B (archiveL es c)), .bool true]) ∧ Hid (Below w.heap.size w w') := by
  have hL := good_lay hg
  obtain ⟨b, k, hA, hpp⟩ := arc_good hg hL (.inl rfl)
  have hcn : (hsOf es 0).length = n2 (archiveL es c) ((archiveL es c).length - b + k + 10) := by
    rw [hsOf_length, hpp, hL.n2 10 (by omega), hL.ebytes.f10]
  have hok := rawPs_ok hg hpk
  have hps := pcsL_ok hok
  have hps2 := catP_ok hok 0
  have hcmt : ((archiveL es c).drop ((archiveL es c).length - b + k + 22)).take (n2 (archiveL es c) ((archiveL es c).length - b + k + 20)) = c := by rw [hpp]; exact hL.comment
  have hln : es.length ≤ 1000 := (good_parts hg).2.1
  have hcl : c.length ≤ 65535 := hL.c
  have hrl : (rawPs es).length = es.length := by unfold rawPs; rw [List.length_map]
  have hDl := hA.len
  have hf0 : Fr (fun _ => False) w (w.alloc (.cells #[.string (B (archiveL es c)), .int .i64 0, .int .i64 (-1)] 122)) := (Fr.refl _ _).alloc _
  have HN := Lib.hid (newZip_any w.heap.size ([] : List UInt8).length b k N0 (archiveL es c) _ (hsOf es 0) E0 _ (hE.fr hf0 (fun _ h => h.elim)) (Blk.new _ _ _) hE.le hA)
  rw [hcmt] at HN
  have HE := Lib.hid (hE.fr hf0 (fun _ h => h.elim))
  have HNW := Lib.hid hE.le
  have HG := Lib.hid (And.intro hg (And.intro hpk (And.intro hfl hdr)))
  have HC := Lib.hid hcn
  have HL := Lib.hid hL
  have HF0 := Lib.hid hf0
  have HP := Lib.hid (And.intro hok (And.intro hps (And.intro hps2 hrl)))
  obtain ⟨D, hD⟩ : ∃ D, D = archiveL es c := ⟨_, rfl⟩
  have HD := Lib.hid hD
  rw [← hD] at HN HE HC HL HF0 hDl ⊢
  clear hE hg hpk hfl hdr hL hA hpp hcn hok hps hps2 hcmt hrl hf0 hD
  go_enter Tryz.func20, Tryz.ntmps20
  go_wp2_with (go_at_call 33; refine (newText_any D w).mono ?_; rintro e w1 ⟨rfl, rfl⟩)
  refine HN.out.mono ?_
  rintro e w1 (⟨_, rb, rfl, files, ps, C1, C, hA⟩ | ⟨hn, _⟩)
  rotate_left
  · exfalso
    have := hn.out
    have := HC.out
    have := n2_lt D (D.length - b + k + 10)
    omega
  obtain ⟨hA1, hA2, hA3, hA4, hA5⟩ := hA.out
  obtain ⟨vx, vcap, rfl⟩ := own_form hA1.own
  have hbw1 : Below w.heap.size w w1 := (HF0.out.trans2 (Fr.of_below (S := fun _ => False) hA5) (U := fun _ => False) (fun _ h => h) (fun _ h => h)).below (Nat.le_refl _) (fun _ _ h => h)
  have E1 := Lib.hid (HE.out.below hA5)
  have T1 : Hid (IsText w1 w.heap.size D) := Lib.hid (below_blk hA5 (Blk.new _ _ _))
  have HW1 := Lib.hid hbw1
  have AR := Lib.hid hA1
  have hC1 : Hid (w.heap.size < w1.heap.size ∧ N0 ≤ w1.heap.size) := Lib.hid (by have h1 := T1.out.lt; have h2 := HNW.out; exact ⟨h1, by omega⟩)
  clear hA hA1 hA2 hA3 hA4 hA5 hbw1 HN HE HF0
  obtain ⟨C0, hC0⟩ : ∃ C0, C0 = w1.heap.size := ⟨_, rfl⟩
  have HC0 := Lib.hid hC0
  have HNW2 := Lib.hid (newWriter_any w1.heap.size (w1.alloc (.cells #[.pointer none, .slice none 0 0] 95)) (Blk.new _ _ _))
  clear hC0
  go_wp2_with fail
  refine HNW2.out.mono ?_
  rintro e w2 ⟨O, z, rfl, h1⟩
  obtain ⟨hsb, hba, hZ, hb1, hlow⟩ := h1.out
  have hbw : Below w1.heap.size w1 w2 := ((Below.refl w1.heap.size w1).alloc (Nat.le_refl _) (.cells #[.pointer none, .slice none 0 0] 95)).trans (hb1.mono (by simp))
  have RS : Hid (RwS C0 w2 O z []) := Lib.hid ⟨none, none, none, [], .pointer none, hZ, rfl, by rw [HC0.out]; exact Nat.le_of_eq hba.symm, fun b hb => by
    rw [HC0.out]
    by_cases hl : b < (w1.alloc (.cells #[.pointer none, .slice none 0 0] 95)).heap.size
    · exact Nat.le_of_eq (hlow b hl hb).symm
    · simp at hl; omega⟩
  have HBW : Hid (Below C0 w1 w2) := Lib.hid (by rw [HC0.out]; exact hbw)
  have HSB := Lib.hid hsb
  have c1 : w2.cell? ⟨rb, 1, none⟩ = some (.slice vx (hsOf es 0).length vcap) := (below_blk hbw AR.out.rdr).cell 1
  have hlh : (hsOf es 0).length = es.length := hsOf_length es 0
  rw [hlh] at c1
  clear h1 hZ hb1 hlow hbw hba hsb HNW2 hlh
  go_wp2_with fail
  clear c1
  go_loopw [32] (fun t32 wr => ∃ i : Nat, t32 = .int .i64 i ∧ i ≤ es.length ∧ Hid (RwS C0 wr O z (rawPs (es.take i))) ∧ Hid (Below C0 w1 wr)) (fun t32 _ => es.length - (intOf t32).toNat)
  case atStart => exact ⟨0, rfl, Nat.zero_le _, RS, HBW⟩
  case round =>
    obtain ⟨i, rfl, hi, hS, hB⟩ := hrel
    have hbr : Below w1.heap.size w1 wr := by have := hB.out; rw [HC0.out] at this; exact this
    by_cases hlt : i < es.length
    · have hx := hsOf_get es 0 i hlt
      rw [Nat.zero_add] at hx
      obtain ⟨g, cap, p, hfl, hcell, f, t0, t1, t2, xv, rfl, hfa, hCf, hfr, d, o, cp, rfl, hCd, hdl, hdr2, hrg, hcp, ht⟩ := AR.out.elem hx
      cases hfl
      have hem : es[i] ∈ es := List.getElem_mem hlt
      have hok : entryOk es[i] = true := List.all_eq_true.1 (good_parts HG.out.1).1 _ hem
      have hraw := fileRaw_of hlt HL.out.eq hok HL.out.pre HL.out.F (HG.out.2.1 _ hem)
      simp only [entryOk, Bool.and_eq_true, decide_eq_true_eq] at hok
      have hgl : g < w1.heap.size := (ownBlock_ge AR.out.own g rfl).2
      have kc : wr.cell? ⟨g, i, none⟩ = some (.pointer (some ⟨f, 0, none⟩)) := (hbr.cell (p := ⟨g, i, none⟩) hgl).trans hcell
      have hsz := hbr.size
      have HCP := Lib.hid (wcopy_any (T := es[i].data) wr hS.out (⟨below_blk hbr hfa, below_blk hbr AR.out.rdr, below_blk hbr T1.out, E1.out.below hbr, hraw.loc, hDl, hraw.nl, hraw.offl, hraw.packed⟩ : Opn wr f rb w.heap.size _ _ N0 es[i].hdr _ t0 t1 t2 _ D E0 _ c _) ht (HOk.of hok.1) (HG.out.2.2.1 _ hem) (.inr ⟨d, o, cp, rfl, Nat.lt_of_lt_of_le hdl hsz, hcp, fun j v hj => by
          rw [hbr.cell (p := ⟨d, o + j, none⟩) hdl]; exact hrg j v hj⟩) (fun d' e => by
          have e2 : d = d' := Option.some.inj e
          have := HC0.out
          omega) (by have := HC0.out; have := hC1.out; have := hfa.lt; omega) hraw.len hraw.text (by omega) hraw.ends (HG.out.2.2.2 _ hem) (by
          have h1 := pcsL_le (rawPs es) i
          have h2 := HP.out.2.1
          have h3 := HP.out.2.2.2
          have e1 : rawPs (es.take i) = (rawPs es).take i := by unfold rawPs; rw [List.map_take]
          rw [e1]; omega) (by
          unfold rawPs
          rw [List.length_map, List.length_take]; omega))
      have hps := rawPs_snoc es i hlt
      have HPS := Lib.hid hps
      clear hx hcell hfa hCf hfr hCd hdl hdr2 hrg hcp ht hem hok hraw hgl hbr hps
      go_wp2_with fail
      refine HCP.out.mono ?_
      rintro r w4 ⟨rfl, h4⟩
      have FIN : Hid (RwS C0 w4 O z (rawPs (es.take (i + 1))) ∧ Below C0 w1 w4) := Lib.hid ⟨by rw [HPS.out]; exact h4.out.1, hB.out.trans h4.out.2⟩
      clear h4 HCP
      go_wp2
      exact ⟨⟨i + 1, by go_num, by omega, Lib.hid FIN.out.1, Lib.hid FIN.out.2⟩, by simp [intOf]; omega⟩
    · obtain rfl : i = es.length := by omega
      obtain ⟨k5, f5, hO⟩ := hS.out.comment
      have hR := hS.out
      rw [List.take_of_length_le (Nat.le_refl _)] at hR
      have hp2 := HP.out
      have HCL := Lib.hid (closed_any C0 O z (rawPs es) c [] wr k5 f5 (hR.endK c) (by omega) hcl (by rw [List.length_append]; omega) hO)
      rw [HSB.out] at HCL
      have c2 : wr.cell? ⟨rb, 2, none⟩ = some (.string (B c)) := (below_blk hbr AR.out.rdr).cell 2
      have HAE : Hid (arcP (rawPs es) c = D) := Lib.hid (by
        rw [HD.out]
        refine arcP_raw es c ?_
        have := rawPs_files es
        rw [← this]; omega)
      clear k5 f5 hO hR hp2 hS hbr
      go_wp2_with fail
      refine HCL.out.mono ?_
      rintro r w4 ⟨rfl, h4⟩
      have FIN : Hid (Below w.heap.size w w4) := Lib.hid (HW1.out.trans ((hB.out.trans h4.out).mono (by rw [HC0.out]; exact HW1.out.size)))
      clear h4 HCL c2
      go_wp2
      go_ret2
      exact ⟨by rw [← HAE.out]; rfl, FIN⟩
end Go.Proofs.Zip
namespace Go.Proofs.Zip
open Go Go.RowKit
/-! What the laws of the Writer share. -/
/-- What is read of an archive by the specification. -/
theorem readHs_good {N0 : Nat} {E0 : Errs} {es : List E} {c : List UInt8} (w : World) (hE : Env w N0 E0) (hg : goodB es c = true) : Calls Tryz.prog 13 #[.string (B (archiveL es c))] w (IsOk c ((hsOf es 0).map toldOf) w) := by
  have hL := good_lay hg
  obtain ⟨b, k, hA, hp⟩ := arc_good hg hL (.inl rfl)
  have hc : (hsOf es 0).length = n2 (archiveL es c) ((archiveL es c).length - b + k + 10) := by
    rw [hsOf_length, hp, hL.n2 10 (by omega), hL.ebytes.f10]
  have h := readOk_any _ b k N0 _ _ (hsOf es 0) E0 w hE hA hc
  rw [hp, hL.comment] at h
  exact h
theorem hrows_length (l : List H) : (hrows l).length = l.length * 14 := by
  induction l with
  | nil => rfl
  | cons h l ih =>
    have e : hrows (h :: l) = h.cells ++ hrows l := rfl
    have hx : h.cells.length = 14 := rfl
    have hy : (h :: l).length = l.length + 1 := rfl
    rw [e, List.length_append, ih, hx, hy]
    omega
theorem hrows_at (l : List H) (k : Nat) (h : k < l.length) (j : Nat) (hj : j < 14) : (hrows l)[k * 14 + j]? = l[k].cells[j]? := by
  induction l generalizing k with
  | nil => simp at h
  | cons x l ih =>
    have e : hrows (x :: l) = x.cells ++ hrows l := rfl
    have hx : x.cells.length = 14 := rfl
    cases k with
    | zero =>
      rw [e, List.getElem?_append_left (by omega)]
      simp
    | succ k =>
      rw [e, List.getElem?_append_right (by omega), hx, show (k + 1) * 14 + j - 14 = k * 14 + j by omega]
      rw [ih k (by simpa using h)]
      simp
/-- The cells of a listing's header. -/
theorem hdrAt {w : World} {base : Nat} {v : Value} {l : List H} (h : w.ownsRow base 36 14 v l.length (hrows l)) {k : Nat} (hk : k < l.length) :
    ∃ g cap, v = .slice (some ⟨g, 0, none⟩) l.length cap ∧ l.length ≤ cap ∧ g < w.heap.size ∧ w.rangeAt g (k * 14) l[k].cells := by
  have h' := h
  obtain ⟨hl, ho⟩ := h
  rcases ho with ⟨_, h0⟩ | ⟨g, cap, cur, rfl, hg, hh, hc, hm, hsz, htk⟩
  · omega
  · refine ⟨g, cap, rfl, hc, (Array.getElem?_eq_some_iff.1 hh).1, fun j v hj => ?_⟩
    have hj14 : j < 14 := (List.getElem?_eq_some_iff.1 hj).1
    have := h'.cells (g := g) rfl (k * 14 + j) v (by rw [hrows_at l k hk j hj14]; exact hj)
    rwa [add_at, Nat.zero_add] at this
end Go.Proofs.Zip
