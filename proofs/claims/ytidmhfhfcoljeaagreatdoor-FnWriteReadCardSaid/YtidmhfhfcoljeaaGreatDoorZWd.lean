/- A part of a proof over the given program: Wd, Wd2. Nothing is assumed here. -/
import Derived.Test.YtidmhfhfcoljeaaGreatDoorZWa
import Derived.Test.YtidmhfhfcoljeaaGreatDoorZJ
import Derived.Test.YtidmhfhfcoljeaaGreatDoorZE
namespace Go.Proofs.Zip
open Go Go.RowKit
/-! A fileWriter with a checksum and a count: Write and close. -/
abbrev ccv (c : Nat) : Value := .iface 126 (.pointer (some ⟨c, 0, none⟩))
abbrev npv (c : Nat) : Value := .iface 271 (.pointer (some ⟨c, 0, none⟩))
abbrev fwdCells (O : Wr) (hb rc np cc ch : Nat) (cl : Bool) : Array Value := #[.pointer (some ⟨hb, 0, none⟩), cwv O, .pointer (some ⟨rc, 0, none⟩), npv np, .pointer (some ⟨cc, 0, none⟩), .pointer (some ⟨ch, 0, none⟩), .bool cl]
set_option maxRecDepth 100000 in
set_option maxHeartbeats 1000000 in
/-- A countWriter over the Writer's own. -/
theorem ccWrite_any (O : Wr) (hO : O.Ok) (cc n : Nat) (x : Value) (L M : List UInt8) (ob : Option Nat) (w : World) (h : OutC w O L ob) (hc : Blk w cc #[cwv O, .int .i64 n] 130) (hcn : ¬ O.all ob cc) (hx : IsBytes w x M) (hs : ∀ d, x.ownBlock = some d → ¬ O.all ob d) (hlen : L.length + M.length ≤ 140737488355328) (hbase : O.base ≤ w.heap.size) (hn : n + M.length ≤ 140737488355328) :
    Calls Tryz.prog 95 #[.pointer (some ⟨cc, 0, none⟩), x] w fun e w' => e = .returned (.tuple #[.int .i64 M.length, .nilIface]) ∧ ∃ ob', Hid (OutC w' O (L ++ M) ob' ∧ obNext ob ob' w.heap.size ∧ Blk w' cc #[cwv O, .int .i64 (n + M.length : Nat)] 130 ∧ Fr (fun b => O.all ob b ∨ b = cc) w w') := by
  have HW := Lib.hid (cwWrite_any O hO x L M ob w h hx hs hlen hbase)
  have c0 : w.cell? ⟨cc, 0, none⟩ = some (cwv O) := hc.cell 0
  have HH := Lib.hid hc
  have HCN := Lib.hid hcn
  have hcl := hc.lt
  clear h hx hc hcn
  go_enter Tryz.func95, Tryz.ntmps95
  go_wp2_with fail
  refine HW.out.mono ?_
  rintro e w1 ⟨rfl, ob', h1⟩
  have hc1 : Blk w1 cc #[cwv O, .int .i64 n] 130 := h1.out.2.2.blk HH.out HCN.out
  have c1 : w1.cell? ⟨cc, 1, none⟩ = some (.int .i64 n) := hc1.cell 1
  have f1 : w1.frozen? ⟨cc, 1, none⟩ = false := hc1.frozen 1
  have FIN : Hid (OutC (w1.setCell ⟨cc, 1, none⟩ (.int .i64 ((n : Int) + (M.length : Int)))) O (L ++ M) ob' ∧ obNext ob ob' w.heap.size ∧ Blk (w1.setCell ⟨cc, 1, none⟩ (.int .i64 ((n : Int) + (M.length : Int)))) cc #[cwv O, .int .i64 (n + M.length : Nat)] 130 ∧ Fr (fun b => O.all ob b ∨ b = cc) w (w1.setCell ⟨cc, 1, none⟩ (.int .i64 ((n : Int) + (M.length : Int))))) := Lib.hid (by
    have e : ((n : Int) + (M.length : Int)) = ((n + M.length : Nat) : Int) := by simp
    rw [e]
    refine ⟨h1.out.1.fr (Fr.set1 w1 cc 1 _) (fun y hy e => ?_), h1.out.2.1, hc1.set 1 _, (h1.out.2.2.mono (fun _ _ h => .inl h)).setCell (fun _ => .inr rfl) _⟩
    subst e
    exact Wr.all_next h1.out.2.1 hcl HCN.out hy)
  clear hc1 h1 HW HH HCN
  go_wp2
  go_ret2
  exact ⟨rfl, ob', FIN⟩
/-! A method that *nopCloser has of the Writer that it holds. -/
theorem metsNp : (Tryz.prog.info? 271).map (fun i => (i.methods.find? (·.name == "Write")).map (fun m => (m.func, m.path))) = some (some (none, #[⟨273, 0, true⟩])) := by kernel_rfl
theorem fldNp : (match Tryz.prog.underlying 273 with | some (.struct fs) => fs[0]?.map (fun f => (f.type, f.offset)) | _ => none) = some (101, 0) := by kernel_rfl
theorem sizeIow : (Tryz.prog.info? 101).map (·.size) = some 1 := by kernel_rfl
theorem meth_cw (n c : Nat) (w : World) : (method (n + 1) 126 (.pointer (some ⟨c, 0, none⟩)) "Write").run Tryz.prog w = .ok (95, .pointer (some ⟨c, 0, none⟩)) w := by kernel_rfl
theorem run_np (np cc : Nat) (n : Nat) (w : World) (h : w.cell? ⟨np, 0, none⟩ = some (ccv cc)) : (method (n + 2) 271 (.pointer (some ⟨np, 0, none⟩)) "Write").run Tryz.prog w = .ok (95, .pointer (some ⟨cc, 0, none⟩)) w := by
  unfold method
  cases hi : Tryz.prog.info? 271 with
  | none => have := metsNp; rw [hi] at this; cases this
  | some i =>
    have hm := metsNp
    rw [hi] at hm
    simp only [Option.map_some, Option.some.injEq] at hm
    obtain ⟨m, hm1, hm2⟩ := Option.map_eq_some_iff.1 hm
    have hf := fldNp
    cases hu : Tryz.prog.underlying 273 with
    | none => rw [hu] at hf; cases hf
    | some d =>
      rw [hu] at hf
      cases d <;> simp only [reduceCtorEq] at hf
      obtain ⟨f, hf1, hf2⟩ := Option.map_eq_some_iff.1 hf
      simp only [Prod.mk.injEq] at hm2 hf2
      obtain ⟨q, hq, hqs⟩ := Option.map_eq_some_iff.1 sizeIow
      simp [typeInfo, hi, hm1, hm2.1, hm2.2, follow, run_underlying hu, hf1, hf2.1, hf2.2, fieldPlace, Place.get, loadVar, sizeOf, asAddr, h, hq, hqs, Addr.add, meth_cw]
set_option maxRecDepth 100000 in
set_option maxHeartbeats 1000000 in
/-- The countWriter over it, by way of a nopCloser. -/
theorem rcWrite_any (O : Wr) (hO : O.Ok) (rc np cc n m : Nat) (x : Value) (L M : List UInt8) (ob : Option Nat) (w : World) (h : OutC w O L ob) (hr : Blk w rc #[npv np, .int .i64 m] 130) (hnp : Blk w np #[ccv cc] 273) (hc : Blk w cc #[cwv O, .int .i64 n] 130) (hcn : ¬ O.all ob cc) (hrn : ¬ O.all ob rc) (hrc : rc ≠ cc) (hx : IsBytes w x M) (hs : ∀ d, x.ownBlock = some d → ¬ O.all ob d) (hlen : L.length + M.length ≤ 140737488355328) (hbase : O.base ≤ w.heap.size) (hn : n + M.length ≤ 140737488355328) (hm : m + M.length ≤ 140737488355328) :
    Calls Tryz.prog 95 #[.pointer (some ⟨rc, 0, none⟩), x] w fun e w' => e = .returned (.tuple #[.int .i64 M.length, .nilIface]) ∧ ∃ ob', Hid (OutC w' O (L ++ M) ob' ∧ obNext ob ob' w.heap.size ∧ Blk w' cc #[cwv O, .int .i64 (n + M.length : Nat)] 130 ∧ Blk w' rc #[npv np, .int .i64 (m + M.length : Nat)] 130 ∧ Fr (fun b => O.all ob b ∨ b = cc ∨ b = rc) w w') := by
  have HW := Lib.hid (ccWrite_any O hO cc n x L M ob w h hc hcn hx hs hlen hbase hn)
  have c0 : w.cell? ⟨rc, 0, none⟩ = some (npv np) := hr.cell 0
  have hmt := fun n => run_np np cc n w (hnp.cell 0)
  have HH := Lib.hid hr
  have HRN := Lib.hid (And.intro hrn hrc)
  have hrl := hr.lt
  clear h hx hr hrn hrc hcn hc hnp
  go_enter Tryz.func95, Tryz.ntmps95
  go_wp2_with fail
  refine HW.out.mono ?_
  rintro e w1 ⟨rfl, ob', h1⟩
  have hr1 : Blk w1 rc #[npv np, .int .i64 m] 130 := h1.out.2.2.2.blk HH.out (fun e => e.elim HRN.out.1 HRN.out.2)
  have c1 : w1.cell? ⟨rc, 1, none⟩ = some (.int .i64 m) := hr1.cell 1
  have f1 : w1.frozen? ⟨rc, 1, none⟩ = false := hr1.frozen 1
  have FIN : Hid (OutC (w1.setCell ⟨rc, 1, none⟩ (.int .i64 ((m : Int) + (M.length : Int)))) O (L ++ M) ob' ∧ obNext ob ob' w.heap.size ∧ Blk (w1.setCell ⟨rc, 1, none⟩ (.int .i64 ((m : Int) + (M.length : Int)))) cc #[cwv O, .int .i64 (n + M.length : Nat)] 130 ∧ Blk (w1.setCell ⟨rc, 1, none⟩ (.int .i64 ((m : Int) + (M.length : Int)))) rc #[npv np, .int .i64 (m + M.length : Nat)] 130 ∧ Fr (fun b => O.all ob b ∨ b = cc ∨ b = rc) w (w1.setCell ⟨rc, 1, none⟩ (.int .i64 ((m : Int) + (M.length : Int))))) := Lib.hid (by
    have e : ((m : Int) + (M.length : Int)) = ((m + M.length : Nat) : Int) := by simp
    rw [e]
    refine ⟨h1.out.1.fr (Fr.set1 w1 rc 1 _) (fun y hy e => ?_), h1.out.2.1, h1.out.2.2.1.set_ne (fun e => HRN.out.2 e.symm) _, hr1.set 1 _, (h1.out.2.2.2.mono (fun _ _ h => h.imp id .inl)).setCell (fun _ => .inr (.inr rfl)) _⟩
    subst e
    exact Wr.all_next h1.out.2.1 hrl HRN.out.1 hy)
  clear hr1 h1 HW HH HRN
  go_wp2
  go_ret2
  exact ⟨rfl, ob', FIN⟩
/-- The window of the blocks of a fileWriter. -/
def Win (lo rc b : Nat) : Prop := lo ≤ b ∧ b ≤ rc
/-- A fileWriter at l: D was written to it. -/
structure Ckw (w : World) (O : Wr) (l hb rc np cc ch lo : Nat) (D : List UInt8) (cl : Bool) : Prop where
  bl : Blk w l (fwdCells O hb rc np cc ch cl) 163
  brc : Blk w rc #[npv np, .int .i64 D.length] 130
  bnp : Blk w np #[ccv cc] 273
  bcc : Blk w cc #[cwv O, .int .i64 D.length] 130
  bch : IsHash w ch (crc D)
  od : hb < lo ∧ lo ≤ cc ∧ lo ≤ ch ∧ cc ≠ ch ∧ cc < l ∧ ch < l ∧ l < np ∧ np < rc
theorem Ckw.fr {S : Nat → Prop} {w w' : World} {O : Wr} {l hb rc np cc ch lo : Nat} {D : List UInt8} {cl : Bool} (h : Ckw w O l hb rc np cc ch lo D cl) (hf : Fr S w w') (hS : ∀ b, Win lo rc b → ¬ S b) : Ckw w' O l hb rc np cc ch lo D cl := by
  obtain ⟨h1, h2, h3, h4, h5, h6, h7, h8⟩ := h.od
  exact ⟨hf.blk h.bl (hS _ ⟨by omega, by omega⟩), hf.blk h.brc (hS _ ⟨by omega, by omega⟩), hf.blk h.bnp (hS _ ⟨by omega, by omega⟩), hf.blk h.bcc (hS _ ⟨by omega, by omega⟩), hf.blk h.bch (hS _ ⟨by omega, by omega⟩), h.od⟩
set_option maxRecDepth 100000 in
set_option maxHeartbeats 1000000 in
/-- What is written to a new one. -/
theorem fwCook_any (O : Wr) (hO : O.Ok) (l hb rc np cc ch lo d cap : Nat) (fhv offv : Value) (L M : List UInt8) (ob : Option Nat) (w : World) (hk : Ckw w O l hb rc np cc ch lo [] false) (hh : Blk w hb #[fhv, offv, .bool false] 153) (h : OutC w O L ob) (hd : d < w.heap.size) (hcap : M.length ≤ cap) (hM : w.rangeAt d 0 (u8s M)) (hs : ¬ O.all ob d) (hsd : ¬ Win lo rc d) (hsw : ∀ b, Win lo rc b → ¬ O.all ob b) (hlen : L.length + M.length ≤ 140737488355328) (hbase : O.base ≤ w.heap.size) :
    Calls Tryz.prog 203 #[.pointer (some ⟨l, 0, none⟩), .slice (some ⟨d, 0, none⟩) M.length cap] w fun e w' => e = .returned (.tuple #[.int .i64 M.length, .nilIface]) ∧ ∃ ob', Hid (OutC w' O (L ++ M) ob' ∧ obNext ob ob' w.heap.size ∧ Ckw w' O l hb rc np cc ch lo M false ∧ Fr (fun b => O.all ob b ∨ Win lo rc b) w w') := by
  obtain ⟨o1, o2, o3, o4, o5, o6, o7, o8⟩ := hk.od
  have c0 : w.cell? ⟨l, 0, none⟩ = some (.pointer (some ⟨hb, 0, none⟩)) := hk.bl.cell 0
  have c5 : w.cell? ⟨l, 5, none⟩ = some (.pointer (some ⟨ch, 0, none⟩)) := hk.bl.cell 5
  have c6 : w.cell? ⟨l, 6, none⟩ = some (.bool false) := hk.bl.cell 6
  have d2 : w.cell? ⟨hb, 2, none⟩ = some (.bool false) := hh.cell 2
  have HW := Lib.hid (hashWrite_any ch d 0 cap (crc []) M w hk.bch hM hd hcap (by omega) (crc_lt []))
  have HK := Lib.hid hk
  have HO := Lib.hid h
  have hchl := hk.bch.lt
  have dch : d ≠ ch := fun e => hsd ⟨by omega, by omega⟩
  have HSW := Lib.hid hsw
  have HSD := Lib.hid (And.intro hs hsd)
  have HM := Lib.hid hM
  have DCH := Lib.hid dch
  have OD := Lib.hid hk.od
  clear hk hh h hM hsw hs hsd dch o1 o2 o3 o4 o5 o6 o7 o8
  go_enter Tryz.func203, Tryz.ntmps203
  go_wp2_with fail
  refine HW.out.mono ?_
  rintro e w1 ⟨rfl, hc1, hf1⟩
  have K1 : w1.cell? ⟨l, 2, none⟩ = some (.pointer (some ⟨rc, 0, none⟩)) := (hf1.blk HK.out.bl (by have := OD.out; omega)).cell 2
  have HR := Lib.hid (rcWrite_any O hO rc np cc 0 0 (.slice (some ⟨d, 0, none⟩) M.length cap) L M ob w1 (HO.out.fr hf1 (fun y hy e => HSW.out ch ⟨by have := OD.out; omega, by have := OD.out; omega⟩ (e ▸ hy))) (hf1.blk HK.out.brc (by have := OD.out; omega)) (hf1.blk HK.out.bnp (by have := OD.out; omega)) (hf1.blk HK.out.bcc (by have := OD.out; omega)) (HSW.out _ ⟨by have := OD.out; omega, by have := OD.out; omega⟩) (HSW.out _ ⟨by have := OD.out; omega, by have := OD.out; omega⟩) (by have := OD.out; omega) (.inr ⟨d, 0, cap, rfl, Nat.lt_of_lt_of_le hd hf1.size, hcap, rangeAt_fr hf1 HM.out hd DCH.out⟩) (fun d' e => by
    have e2 : d = d' := Option.some.inj e
    subst e2; exact HSD.out.1) hlen (Nat.le_trans hbase hf1.size) (by omega) (by omega))
  have HF1 := Lib.hid hf1
  have HC1 := Lib.hid hc1
  clear hf1 hc1 HW c0 c5 c6 d2
  go_wp2_with fail
  refine HR.out.mono ?_
  rintro e w2 ⟨rfl, ob', h2⟩
  have FIN : Hid (OutC w2 O (L ++ M) ob' ∧ obNext ob ob' w.heap.size ∧ Ckw w2 O l hb rc np cc ch lo M false ∧ Fr (fun b => O.all ob b ∨ Win lo rc b) w w2) := Lib.hid (by
    obtain ⟨a1, a2, a3, a4, a5⟩ := h2.out
    obtain ⟨o1, o2, o3, o4, o5, o6, o7, o8⟩ := OD.out
    have ns : ∀ b, Win lo rc b → b ≠ cc → b ≠ rc → ¬ (O.all ob b ∨ b = cc ∨ b = rc) := fun b hb h1 h2 e => by
      rcases e with e | e | e
      · exact HSW.out b hb e
      · exact h1 e
      · exact h2 e
    rw [Nat.zero_add] at a3 a4
    refine ⟨a1, ?_, ⟨a5.blk (HF1.out.blk HK.out.bl (by omega)) (ns l ⟨by omega, by omega⟩ (by omega) (by omega)), a4, a5.blk (HF1.out.blk HK.out.bnp (by omega)) (ns np ⟨by omega, by omega⟩ (by omega) (by omega)), a3, ?_, HK.out.od⟩, HF1.out.trans2 a5 (fun b e => .inr (by subst e; exact ⟨by omega, by omega⟩)) (fun b e => ?_)⟩
    · rcases a2 with h | ⟨y, h, h4⟩
      · exact .inl h
      · exact .inr ⟨y, h, Nat.le_trans HF1.out.size h4⟩
    · have := a5.blk HC1.out (ns ch ⟨by omega, by omega⟩ (by omega) (by omega))
      rw [crcUpd_append] at this
      exact this
    · rcases e with e | e | e
      · exact .inl e
      · exact .inr (by subst e; exact ⟨by omega, by omega⟩)
      · exact .inr (by subst e; exact ⟨by omega, Nat.le_refl _⟩))
  clear h2 HR HF1 HC1 K1
  go_wp2
  go_ret2
  exact ⟨rfl, ob', FIN⟩
end Go.Proofs.Zip
namespace Go.Proofs.Zip
open Go Go.RowKit
/-! A fileWriter with a checksum: its close, and the descriptor. -/
/-- 'make([]byte, n)', n a number of the text: zeros. -/
theorem wpList_make_zero {ops : Array Oper} {rest : List Oper} {o : Oper} {a : Act} {w : World} {Q : Exit → Act → World → Prop} (hg : o.guard = none) (l c : Operand) (hop : o.op = Op.makeSlice 76 l c) (n : Nat) (hl : a.eval l = .int .i64 n) (hc : a.eval c = .int .i64 n) (hn : n ≤ 140737488355328) (hz : madeCells (Value.int .u8 0).cells (n * 1) = zeroA n)
    (hK : ∀ w', Blk w' w.heap.size (zeroA n) 5 → Below w.heap.size w w' → w.heap.size < w'.heap.size → wpList Tryz.prog ops Q rest (a.put o.dst (.slice (some ⟨w.heap.size, 0, none⟩) n n)) w') : wpList Tryz.prog ops Q (o :: rest) a w := by
  obtain ⟨i0, hi, hz0, hz1, hz2⟩ := info_parts infoU8
  refine wpList_make_full w hg l c 76 hop w.heap.size 5 i0 _ 1 Tryz.underlying76 hi hz0 hz1 .i64 .i64 n n n hl hc rfl rfl (by rw [hz2]; omega) (by unfold maxLen; omega) (Nat.le_refl _) ?_
  intro w' hown hgr
  obtain ⟨hlen, h⟩ := hown
  rcases h with ⟨h1, h2⟩ | ⟨g, cap, cur, hv, hg', hh, hcc, hm, hsz, htk⟩
  · cases h1
  · cases hv
    have hsz1 : cur.size = n := by omega
    have hcur : cur = zeroA n := by
      apply Array.toList_inj.1
      rw [List.take_of_length_le (by simp; omega)] at htk
      rw [htk, hz]
    refine hK w' (hcur ▸ hh) (Below.grown (Below.refl _ _) hgr (Nat.le_refl _) fun k hk => by cases hk) (Array.getElem?_eq_some_iff.1 hh).1
/-- The descriptor of D. -/
def descL (c n : Int) : List UInt8 := [80, 75, 7, 8] ++ leB 4 c ++ leB 4 n ++ leB 4 n
theorem length_descL (c n : Int) : (descL c n).length = 16 := by simp [descL]
set_option maxRecDepth 100000 in
set_option maxHeartbeats 2000000 in
theorem wddFlag_any (O : Wr) (hO : O.Ok) (l hb fh : Nat) (fc : Array Value) (off : Int) (h : H) (non : Bool) (t0 t1 t2 x : Value) (n : Nat) (L : List UInt8) (ob : Option Nat) (w : World) (ho : OutC w O L ob) (hl : Blk w l fc 163) (hl0 : fc[0]? = some (.pointer (some ⟨hb, 0, none⟩))) (hl1 : fc[1]? = some (cwv O)) (hh : Blk w hb #[.pointer (some ⟨fh, 0, none⟩), .int .u64 off, .bool false] 153) (hf : Blk w fh (hdrCells h non t0 t1 t2 x n n) 78) (hp : h.packed = (n : Int)) (hs : h.size = (n : Int)) (hn : n ≤ 4294967294) (hc0 : 0 ≤ h.crc) (hc1 : h.crc ≤ 4294967295) (hdd : (bits .and .u16 h.flags 8 != 0) = true) (hlen : L.length + 200000 ≤ 140737488355328) (hbase : O.base ≤ w.heap.size) :
    Calls Tryz.prog 129 #[.pointer (some ⟨l, 0, none⟩)] w fun e w' => e = .returned .nilIface ∧ ∃ ob', Hid (OutC w' O (L ++ descL h.crc n) ob' ∧ obNext ob ob' w.heap.size ∧ Fr (O.all ob) w w') := by
  have hll := hl.lt
  have hbl := hh.lt
  have fhl := hf.lt
  have c0 : w.cell? ⟨l, 0, none⟩ = some (.pointer (some ⟨hb, 0, none⟩)) := (hl.cell 0).trans hl0
  have C1 : Hid (w.cell? ⟨l, 1, none⟩ = some (cwv O)) := Lib.hid ((hl.cell 1).trans hl1)
  have d0 : w.cell? ⟨hb, 0, none⟩ = some (.pointer (some ⟨fh, 0, none⟩)) := hh.cell 0
  have e13 : w.cell? ⟨fh, 15, none⟩ = some (.int .u64 n) := (hf.cell 15).trans (by rw [← hp]; rfl)
  have e14 : w.cell? ⟨fh, 16, none⟩ = some (.int .u64 n) := (hf.cell 16).trans (by rw [← hs]; rfl)
  have q3 : ¬ ((4294967295 : Int) < (n : Int)) := by omega
  have HD := Lib.hid (dataDescH_any fh h non t0 t1 t2 x n n w hf)
  rw [hdd] at HD
  have C0 := Lib.hid c0
  have D0 := Lib.hid d0
  have E13 := Lib.hid e13
  have E14 := Lib.hid e14
  have F12 : Hid (w.cell? ⟨fh, 12, none⟩ = some (.int .u32 h.crc)) := Lib.hid (hf.cell 12)
  have F13 : Hid (w.cell? ⟨fh, 13, none⟩ = some (.int .u32 n)) := Lib.hid (hf.cell 13)
  have F14 : Hid (w.cell? ⟨fh, 14, none⟩ = some (.int .u32 n)) := Lib.hid (hf.cell 14)
  have HOC := Lib.hid ho
  clear hl hl0 hl1 hh hf hdd hp hs ho
  go_enter Tryz.func129, Tryz.ntmps129
  go_wp2_with (first | (go_at_call 83; refine HD.out.mono ?_; rintro e w1 ⟨rfl, rfl⟩) | (refine wpList_make_zero rfl _ _ rfl 16 rfl rfl (by decide) (by kernel_rfl) ?_))
  intro w1 hz hb1 hlt
  have W0 : Hid (WB (w1.alloc (.cells #[.slice (some ⟨w.heap.size, 0, none⟩) 16 16] 147)) w1.heap.size w.heap.size 16 [] 5) := Lib.hid ⟨⟨_, Blk.new _ _ _, fun _ => rfl⟩, by rw [put_nil]; exact hz.alloc _, by simp⟩
  have G0 : Hid (Below w.heap.size w (w1.alloc (.cells #[.slice (some ⟨w.heap.size, 0, none⟩) 16 16] 147))) := Lib.hid (hb1.alloc (Nat.le_of_lt hlt) _)
  have hvg : w1.heap.size ≠ w.heap.size := by omega
  have VG := Lib.hid (And.intro hvg hlt)
  have S0 := Lib.hid (W0.out.u32i hvg 134695760 (by omega) (by omega) (by simp))
  clear hz hb1 hvg HD c0 d0 e13 e14
  go_wp2_with fail
  refine S0.out.mono ?_
  rintro e y1 ⟨rfl, hw, hf⟩
  have W1 := Lib.hid hw
  have G1 : Hid (Below w.heap.size w y1) := Lib.hid (G0.out.trans (hf.below G0.out.size (by have := VG.out; rintro i hi (e | e) <;> omega)))
  clear hw hf S0 W0 G0
  have c0 : y1.cell? ⟨l, 0, none⟩ = some (.pointer (some ⟨hb, 0, none⟩)) := (G1.out.cell (p := ⟨l, 0, none⟩) hll).trans C0.out
  have d0 : y1.cell? ⟨hb, 0, none⟩ = some (.pointer (some ⟨fh, 0, none⟩)) := (G1.out.cell (p := ⟨hb, 0, none⟩) hbl).trans D0.out
  have e0 : y1.cell? ⟨fh, 12, none⟩ = some (.int .u32 h.crc) := (G1.out.cell (p := ⟨fh, 12, none⟩) fhl).trans F12.out
  have S1 := Lib.hid (W1.out.u32i VG.out.1 h.crc hc0 hc1 (by simp))
  go_wp2_with fail
  refine S1.out.mono ?_
  rintro e y2 ⟨rfl, hw, hf⟩
  have W2 := Lib.hid hw
  have G2 : Hid (Below w.heap.size w y2) := Lib.hid (G1.out.trans (hf.below G1.out.size (by have := VG.out; rintro i hi (e | e) <;> omega)))
  clear hw hf S1 W1 G1 c0 d0 e0
  have c0 : y2.cell? ⟨l, 0, none⟩ = some (.pointer (some ⟨hb, 0, none⟩)) := (G2.out.cell (p := ⟨l, 0, none⟩) hll).trans C0.out
  have d0 : y2.cell? ⟨hb, 0, none⟩ = some (.pointer (some ⟨fh, 0, none⟩)) := (G2.out.cell (p := ⟨hb, 0, none⟩) hbl).trans D0.out
  have e0 : y2.cell? ⟨fh, 15, none⟩ = some (.int .u64 n) := (G2.out.cell (p := ⟨fh, 15, none⟩) fhl).trans E13.out
  have e1 : y2.cell? ⟨fh, 16, none⟩ = some (.int .u64 n) := (G2.out.cell (p := ⟨fh, 16, none⟩) fhl).trans E14.out
  have e2 : y2.cell? ⟨fh, 13, none⟩ = some (.int .u32 n) := (G2.out.cell (p := ⟨fh, 13, none⟩) fhl).trans F13.out
  have S2 := Lib.hid (W2.out.u32i VG.out.1 (n : Int) (by omega) (by omega) (by simp))
  go_wp2_with fail
  refine S2.out.mono ?_
  rintro e y3 ⟨rfl, hw, hf⟩
  have W3 := Lib.hid hw
  have G3 : Hid (Below w.heap.size w y3) := Lib.hid (G2.out.trans (hf.below G2.out.size (by have := VG.out; rintro i hi (e | e) <;> omega)))
  clear hw hf S2 W2 G2 c0 d0 e0 e1 e2
  have c0 : y3.cell? ⟨l, 0, none⟩ = some (.pointer (some ⟨hb, 0, none⟩)) := (G3.out.cell (p := ⟨l, 0, none⟩) hll).trans C0.out
  have d0 : y3.cell? ⟨hb, 0, none⟩ = some (.pointer (some ⟨fh, 0, none⟩)) := (G3.out.cell (p := ⟨hb, 0, none⟩) hbl).trans D0.out
  have e0 : y3.cell? ⟨fh, 14, none⟩ = some (.int .u32 n) := (G3.out.cell (p := ⟨fh, 14, none⟩) fhl).trans F14.out
  have S3 := Lib.hid (W3.out.u32i VG.out.1 (n : Int) (by omega) (by omega) (by simp))
  go_wp2_with fail
  refine S3.out.mono ?_
  rintro e y4 ⟨rfl, hw, hf⟩
  have G4 : Hid (Below w.heap.size w y4) := Lib.hid (G3.out.trans (hf.below G3.out.size (by have := VG.out; rintro i hi (e | e) <;> omega)))
  obtain ⟨P, hP⟩ : ∃ P, P = ([] ++ leB 4 134695760 ++ leB 4 h.crc ++ leB 4 (n : Int) ++ leB 4 (n : Int)) := ⟨_, rfl⟩
  rw [← hP] at hw
  have hPl : P.length = 16 := by rw [hP]; simp
  have HPD : Hid (P = descL h.crc n) := Lib.hid (by
    rw [hP, show leB 4 134695760 = [80, 75, 7, 8] by decide +kernel]
    simp [descL])
  have c1 : y4.cell? ⟨l, 1, none⟩ = some (cwv O) := (G4.out.cell (p := ⟨l, 1, none⟩) hll).trans C1.out
  have hgl := hw.buf.lt
  have HC := Lib.hid (cwWrite_any O hO (.slice (some ⟨w.heap.size, 0, none⟩) 16 16) L P ob y4 (HOC.out.fr (Fr.of_below (S := fun _ => False) G4.out) (fun _ _ => id)) (.inr ⟨w.heap.size, 0, 16, by rw [hPl], hgl, by omega, hw.full hPl⟩) (by
    intro d hd
    have hd2 : w.heap.size = d := Option.some.inj hd
    subst hd2
    intro e
    exact Nat.lt_irrefl _ (HOC.out.ltn _ e)) (by omega) (Nat.le_trans hbase G4.out.size))
  rw [hPl] at HC
  clear hw hf S3 W3 G3 c0 d0 e0 hP hPl hgl
  go_wp2_with fail
  refine HC.out.mono ?_
  rintro e y5 ⟨rfl, ob', h5⟩
  have FIN : Hid (OutC y5 O (L ++ descL h.crc n) ob' ∧ obNext ob ob' w.heap.size ∧ Fr (O.all ob) w y5) := Lib.hid ⟨by rw [← HPD.out]; exact h5.out.1, h5.out.2.1.imp id (fun ⟨q, e, h⟩ => ⟨q, e, Nat.le_trans G4.out.size h⟩), (Fr.of_below (S := O.all ob) G4.out).trans h5.out.2.2 (fun _ _ h => h)⟩
  clear h5 HC
  go_wp2
  go_ret
  exact ⟨rfl, ob', FIN⟩
theorem metsNpC : (Tryz.prog.info? 271).map (fun i => (i.methods.find? (·.name == "Close")).map (fun m => (m.func, m.path))) = some (some (some (231, false), #[])) := by kernel_rfl
theorem sizeNp : (Tryz.prog.info? 273).map (·.size) = some 1 := by kernel_rfl
theorem rowNp : ∃ d, Tryz.prog.underlying 273 = some d ∧ d.isRow = true := by
  have h : (Tryz.prog.underlying 273).map (·.isRow) = some true := by kernel_rfl
  obtain ⟨d, h1, h2⟩ := Option.map_eq_some_iff.1 h
  exact ⟨d, h1, h2⟩
theorem run_npClose (np cc : Nat) (n : Nat) (w : World) (h : w.cell? ⟨np, 0, none⟩ = some (ccv cc)) : (method (n + 1) 271 (.pointer (some ⟨np, 0, none⟩)) "Close").run Tryz.prog w = .ok (231, .agg #[ccv cc]) w := by
  unfold method
  cases hi : Tryz.prog.info? 271 with
  | none => have := metsNpC; rw [hi] at this; cases this
  | some i =>
    have hm := metsNpC
    rw [hi] at hm
    simp only [Option.map_some, Option.some.injEq] at hm
    obtain ⟨m, hm1, hm2⟩ := Option.map_eq_some_iff.1 hm
    simp only [Prod.mk.injEq] at hm2
    obtain ⟨d, hd1, hd2⟩ := rowNp
    have hl := run_loadVar_mid (P := Tryz.prog) w np 0 273 [ccv cc] d (fun j v hj => by
      match j, hj with
      | 0, hj => simp at hj; subst hj; exact h) hd1 hd2 sizeNp
    have hs : ∀ s, (Builtin.ssaWrapNilChk_ #[271] 271 #[.pointer (some ⟨np, 0, none⟩), strVal "", strVal s]).run Tryz.prog w = .ok (.pointer (some ⟨np, 0, none⟩)) w := fun s => by kernel_rfl
    simp [typeInfo, hi, hm1, hm2.1, hm2.2, follow, receiverAt, Place.get, run_underlying Tryz.underlying271, hs, hl, Result.andThen, asAddr]
set_option maxRecDepth 100000 in
theorem npClose_any (v : Value) (w : World) : Calls Tryz.prog 231 #[.agg #[v]] w fun e w' => e = .returned .nilIface ∧ Below w.heap.size w w' := by
  go_enter Tryz.func231, Tryz.ntmps231
  go_wp2
  go_ret
  exact ⟨rfl, (Below.refl _ _).alloc (Nat.le_refl _) _⟩
/-- A header with what is known of the content. -/
abbrev H.fin (h : H) (D : List UInt8) : H := { h with crc := (Zip.crc D : Int), packed := D.length, size := D.length }
set_option maxRecDepth 100000 in
set_option maxHeartbeats 2000000 in
theorem closeCook_any (O : Wr) (hO : O.Ok) (l hb fh rc np cc ch lo : Nat) (D : List UInt8) (off : Int) (h : H) (non : Bool) (t0 t1 t2 x : Value) (c u : Int) (L : List UInt8) (ob : Option Nat) (w : World) (ho : OutC w O L ob) (hk : Ckw w O l hb rc np cc ch lo D false) (hh : Blk w hb #[.pointer (some ⟨fh, 0, none⟩), .int .u64 off, .bool false] 153) (hf : Blk w fh (hdrCells h non t0 t1 t2 x c u) 78) (hfc : fh < lo) (hbf : hb ≠ fh) (hD : D.length ≤ 4294967294) (hdd : (bits .and .u16 h.flags 8 != 0) = true) (hlen : L.length + 200000 ≤ 140737488355328) (hbase : O.base ≤ w.heap.size) (hlA : ∀ b, Win lo rc b → ¬ O.all ob b) (hfA : ¬ O.all ob fh) (hbA : ¬ O.all ob hb) :
    Calls Tryz.prog 93 #[.pointer (some ⟨l, 0, none⟩)] w fun e w' => e = .returned .nilIface ∧ ∃ ob' w1, Hid (Fr (fun b => b = l) w w1 ∧ Blk w1 fh (hdrCells h non t0 t1 t2 x c u) 78 ∧ ∃ w2, Fr (· = fh) w1 w2 ∧ Blk w2 fh (hdrCells (h.fin D) non t0 t1 t2 x D.length D.length) 78 ∧ OutC w' O (L ++ descL (crc D) D.length) ob' ∧ obNext ob ob' w2.heap.size ∧ Fr (O.all ob) w2 w') := by
  obtain ⟨o1, o2, o3, o4, o5, o6, o7, o8⟩ := hk.od
  have lfh : l ≠ fh := by omega
  have lhb : l ≠ hb := by omega
  have c0 : w.cell? ⟨l, 0, none⟩ = some (.pointer (some ⟨hb, 0, none⟩)) := hk.bl.cell 0
  have c6 : w.cell? ⟨l, 6, none⟩ = some (.bool false) := hk.bl.cell 6
  have f6 : w.frozen? ⟨l, 6, none⟩ = false := hk.bl.frozen 6
  have d2 : (w.setCell ⟨l, 6, none⟩ (.bool true)).cell? ⟨hb, 2, none⟩ = some (.bool false) := (hh.set_ne lhb.symm _).cell 2
  obtain ⟨w1, hw1⟩ : ∃ w1, w1 = w.setCell ⟨l, 6, none⟩ (.bool true) := ⟨_, rfl⟩
  have F1 : Hid (Fr (fun b => b = l) w w1) := Lib.hid (by rw [hw1]; exact Fr.set1 w l 6 _)
  have K1 : Hid (Ckw w1 O l hb rc np cc ch lo D true) := Lib.hid (by
    have hl1 := hk.bl.set 6 (.bool true)
    rw [hw1]
    exact ⟨hl1, hk.brc.set_ne (by show rc ≠ l; omega) _, hk.bnp.set_ne (by show np ≠ l; omega) _, hk.bcc.set_ne (by show cc ≠ l; omega) _, hk.bch.set_ne (by show ch ≠ l; omega) _, hk.od⟩)
  have HH1 : Hid (Blk w1 hb #[.pointer (some ⟨fh, 0, none⟩), .int .u64 off, .bool false] 153) := Lib.hid (F1.out.blk hh lhb.symm)
  have HF1 : Hid (Blk w1 fh (hdrCells h non t0 t1 t2 x c u) 78) := Lib.hid (F1.out.blk hf lfh.symm)
  have OC1 : Hid (OutC w1 O L ob) := Lib.hid (ho.fr F1.out (fun y hy e => hlA l ⟨by omega, by omega⟩ (e ▸ hy)))
  have OD := Lib.hid hk.od
  have LA := Lib.hid (And.intro hlA (And.intro hfA hbA))
  have NE := Lib.hid (And.intro hfc hbf)
  clear hk hh hf ho hlA hfA hbA o1 o2 o3 o4 o5 o6 o7 o8 lfh lhb hfc hbf
  go_enter Tryz.func93, Tryz.ntmps93
  go_upto_region 4 with fail
  rw [← hw1] at d2 ⊢
  clear c0 c6 f6
  clear hw1
  have c3 : w1.cell? ⟨l, 3, none⟩ = some (npv np) := K1.out.bl.cell 3
  have c00 : w1.cell? ⟨l, 0, none⟩ = some (.pointer (some ⟨hb, 0, none⟩)) := K1.out.bl.cell 0
  have hmt := fun n => run_npClose np cc n w1 (K1.out.bnp.cell 0)
  have HNC := Lib.hid (npClose_any (ccv cc) w1)
  go_wp2_with fail
  refine HNC.out.mono ?_
  rintro e w1b ⟨rfl, hb1⟩
  have f1b : Fr (fun _ => False) w1 w1b := Fr.of_below hb1
  have F1' : Hid (Fr (fun b => b = l) w w1b) := Lib.hid (F1.out.trans2 f1b (fun _ h => h) (fun _ h => h.elim))
  have K1' := Lib.hid (K1.out.fr f1b (fun _ _ => id))
  have HH1' := Lib.hid (f1b.blk HH1.out id)
  have HF1' := Lib.hid (f1b.blk HF1.out id)
  have OC1' := Lib.hid (OC1.out.fr f1b (fun _ _ => id))
  clear hb1 f1b F1 K1 HH1 HF1 OC1 c3 c00 d2 hmt HNC
  have c0 : w1b.cell? ⟨l, 0, none⟩ = some (.pointer (some ⟨hb, 0, none⟩)) := K1'.out.bl.cell 0
  have c5 : w1b.cell? ⟨l, 5, none⟩ = some (.pointer (some ⟨ch, 0, none⟩)) := K1'.out.bl.cell 5
  have d0 : w1b.cell? ⟨hb, 0, none⟩ = some (.pointer (some ⟨fh, 0, none⟩)) := HH1'.out.cell 0
  have HS := Lib.hid (hashSum_any ch (crc D) w1b K1'.out.bch)
  have CELLS : Hid (∀ v, Fr (· = fh) w1b v → (v.cell? ⟨l, 0, none⟩ = some (.pointer (some ⟨hb, 0, none⟩)) ∧ v.cell? ⟨l, 2, none⟩ = some (.pointer (some ⟨rc, 0, none⟩)) ∧ v.cell? ⟨l, 4, none⟩ = some (.pointer (some ⟨cc, 0, none⟩)) ∧ v.cell? ⟨rc, 1, none⟩ = some (.int .i64 D.length) ∧ v.cell? ⟨cc, 1, none⟩ = some (.int .i64 D.length) ∧ v.cell? ⟨hb, 0, none⟩ = some (.pointer (some ⟨fh, 0, none⟩)))) := Lib.hid fun v hv => by
    have := OD.out
    have := NE.out
    exact ⟨(hv.blk K1'.out.bl (by omega)).cell 0, (hv.blk K1'.out.bl (by omega)).cell 2, (hv.blk K1'.out.bl (by omega)).cell 4, (hv.blk K1'.out.brc (by omega)).cell 1, (hv.blk K1'.out.bcc (by omega)).cell 1, (hv.blk HH1'.out (by omega)).cell 0⟩
  have k12 : w1b.cell? ⟨fh, 12, none⟩ = some (.int .u32 h.crc) := HF1'.out.cell 12
  have f12 : w1b.frozen? ⟨fh, 12, none⟩ = false := HF1'.out.frozen 12
  have rn : IntKind.u64.wrap (D.length : Int) = D.length := by rw [IntKind.wrap_u64]; omega
  have rm : IntKind.u32.wrap (D.length : Int) = D.length := by rw [IntKind.wrap_u32]; omega
  have q3 : ¬ ((4294967295 : Int) < (D.length : Int)) := by omega
  go_upto_region 11 with (first | (go_at_call 130; refine HS.out.mono ?_; rintro e v ⟨rfl, rfl⟩))
  have B1 : Blk (w1b.setCell ⟨fh, 12, none⟩ (.int .u32 (crc D))) fh (hdrCells { h with crc := (crc D : Int) } non t0 t1 t2 x c u) 78 := HF1'.out.set 12 _
  have G1 : Fr (· = fh) w1b (w1b.setCell ⟨fh, 12, none⟩ (.int .u32 (crc D))) := Fr.set1 w1b fh 12 _
  clear c0 c5 d0 k12 f12 HS
  generalize w1b.setCell ⟨fh, 12, none⟩ (.int .u32 (crc D)) = v1 at B1 G1 ⊢
  have HB1 := Lib.hid B1
  have HG1 := Lib.hid G1
  obtain ⟨c0, c2, c4, cr, cc1, d0⟩ := CELLS.out v1 G1
  have k15 : v1.cell? ⟨fh, 15, none⟩ = some (.int .u64 h.packed) := B1.cell 15
  have f15 : v1.frozen? ⟨fh, 15, none⟩ = false := B1.frozen 15
  clear B1 G1
  go_upto_region 12 with fail
  have B2 : Blk (v1.setCell ⟨fh, 15, none⟩ (.int .u64 D.length)) fh (hdrCells { h with crc := (crc D : Int), packed := D.length } non t0 t1 t2 x c u) 78 := HB1.out.set 15 _
  have G2 : Fr (· = fh) w1b (v1.setCell ⟨fh, 15, none⟩ (.int .u64 D.length)) := HG1.out.setCell (fun _ => rfl) _
  clear c0 c2 c4 cr cc1 d0 k15 f15 HB1 HG1
  generalize v1.setCell ⟨fh, 15, none⟩ (.int .u64 D.length) = v2 at B2 G2 ⊢
  have HB2 := Lib.hid B2
  have HG2 := Lib.hid G2
  obtain ⟨c0, c2, c4, cr, cc1, d0⟩ := CELLS.out v2 G2
  have k16 : v2.cell? ⟨fh, 16, none⟩ = some (.int .u64 h.size) := B2.cell 16
  have f16 : v2.frozen? ⟨fh, 16, none⟩ = false := B2.frozen 16
  clear B2 G2
  go_upto_region 13 with fail
  have B3 : Blk (v2.setCell ⟨fh, 16, none⟩ (.int .u64 D.length)) fh (hdrCells (h.fin D) non t0 t1 t2 x c u) 78 := HB2.out.set 16 _
  have G3 : Fr (· = fh) w1b (v2.setCell ⟨fh, 16, none⟩ (.int .u64 D.length)) := HG2.out.setCell (fun _ => rfl) _
  clear c0 c2 c4 cr cc1 d0 k16 f16 HB2 HG2
  generalize v2.setCell ⟨fh, 16, none⟩ (.int .u64 D.length) = v3 at B3 G3 ⊢
  have HB3 := Lib.hid B3
  have HG3 := Lib.hid G3
  obtain ⟨c0, c2, c4, cr, cc1, d0⟩ := CELLS.out v3 G3
  have k15 : v3.cell? ⟨fh, 15, none⟩ = some (.int .u64 D.length) := B3.cell 15
  have k16 : v3.cell? ⟨fh, 16, none⟩ = some (.int .u64 D.length) := B3.cell 16
  have k13 : v3.cell? ⟨fh, 13, none⟩ = some (.int .u32 c) := B3.cell 13
  have f13 : v3.frozen? ⟨fh, 13, none⟩ = false := B3.frozen 13
  clear B3 G3
  go_upto_region 18 with fail
  have B4 : Blk (v3.setCell ⟨fh, 13, none⟩ (.int .u32 D.length)) fh (hdrCells (h.fin D) non t0 t1 t2 x D.length u) 78 := HB3.out.set 13 _
  have G4 : Fr (· = fh) w1b (v3.setCell ⟨fh, 13, none⟩ (.int .u32 D.length)) := HG3.out.setCell (fun _ => rfl) _
  clear c0 c2 c4 cr cc1 d0 k15 k16 k13 f13 HB3 HG3
  generalize v3.setCell ⟨fh, 13, none⟩ (.int .u32 D.length) = v4 at B4 G4 ⊢
  have HB4 := Lib.hid B4
  have HG4 := Lib.hid G4
  have k16 : v4.cell? ⟨fh, 16, none⟩ = some (.int .u64 D.length) := B4.cell 16
  have k14 : v4.cell? ⟨fh, 14, none⟩ = some (.int .u32 u) := B4.cell 14
  have f14 : v4.frozen? ⟨fh, 14, none⟩ = false := B4.frozen 14
  clear B4 G4
  go_upto_region 19 with fail
  have B5 : Blk (v4.setCell ⟨fh, 14, none⟩ (.int .u32 D.length)) fh (hdrCells (h.fin D) non t0 t1 t2 x D.length D.length) 78 := HB4.out.set 14 _
  have G5 : Fr (· = fh) w1b (v4.setCell ⟨fh, 14, none⟩ (.int .u32 D.length)) := HG4.out.setCell (fun _ => rfl) _
  clear k16 k14 f14 HB4 HG4
  generalize v4.setCell ⟨fh, 14, none⟩ (.int .u32 D.length) = v5 at B5 G5 ⊢
  have HOD := OD.out
  have HNE := NE.out
  have HWD := Lib.hid (wddFlag_any O hO l hb fh (fwdCells O hb rc np cc ch true) off (h.fin D) non t0 t1 t2 x D.length L ob v5 (OC1'.out.fr G5 (fun y hy e => LA.out.2.1 (e ▸ hy))) (G5.blk K1'.out.bl (by omega)) rfl rfl (G5.blk HH1'.out HNE.2) B5 rfl rfl hD (by show (0 : Int) ≤ ((Zip.crc D : Nat) : Int); omega) (by have := crc_lt D; show ((Zip.crc D : Nat) : Int) ≤ 4294967295; omega) hdd hlen (Nat.le_trans hbase (Nat.le_trans F1'.out.size G5.size)))
  have HB5 := Lib.hid B5
  have HG5 := Lib.hid G5
  clear B5 G5 HOD HNE
  go_wp2_with fail
  refine HWD.out.mono ?_
  rintro e w9 ⟨rfl, ob', h9⟩
  have FIN : Hid (Fr (fun b => b = l) w w1b ∧ Blk w1b fh (hdrCells h non t0 t1 t2 x c u) 78 ∧ ∃ w2, Fr (· = fh) w1b w2 ∧ Blk w2 fh (hdrCells (h.fin D) non t0 t1 t2 x D.length D.length) 78 ∧ OutC w9 O (L ++ descL (crc D) D.length) ob' ∧ obNext ob ob' w2.heap.size ∧ Fr (O.all ob) w2 w9) := Lib.hid ⟨F1'.out, HF1'.out, v5, HG5.out, HB5.out, h9.out.1, h9.out.2.1, h9.out.2.2⟩
  clear h9 HWD
  go_wp2
  go_ret
  exact ⟨rfl, ob', w1b, FIN⟩
end Go.Proofs.Zip
