/- A part of a proof over the given program: OpT, Ck, Fau. Nothing is assumed here. -/
import Derived.Test.YtidmhfhfcoljeaaGreatDoorZM
import Derived.Test.YtidmhfhfcoljeaaGreatDoorZJ
namespace Go.Proofs.Zip
open Go Go.RowKit
/-- What Open makes of a stored file: a checked reader over the part. -/
def StoredPost (f a off body : Nat) (h : H) (w : World) (e : Ending) (w' : World) : Prop := ∃ q s hb, e = .returned (.tuple #[chkv q, .nilIface]) ∧ Hid (Blk w' q (chkCells (nopv s) hb f .nilIface 0 .nilIface) 179 ∧ IsPart w' s a ((off : Int) + body) ((off : Int) + body) ((off : Int) + body + h.packed) h.packed ∧ IsHash w' hb 0 ∧ w.heap.size ≤ s ∧ w.heap.size ≤ hb ∧ w.heap.size ≤ q ∧ s < hb ∧ hb < q ∧ Below w.heap.size w w')
theorem stored_fin (w3 : World) (A C : Array Value) (t1 t2 : TypeId) : Blk ((w3.drew.alloc (.cells A t1)).alloc (.cells C t2)) (w3.heap.size + 1) C t2 ∧ Blk ((w3.drew.alloc (.cells A t1)).alloc (.cells C t2)) w3.heap.size A t1 ∧ Fr (fun _ => False) w3 ((w3.drew.alloc (.cells A t1)).alloc (.cells C t2)) := by
  have h1 := Blk.new w3.drew A t1
  have h2 := Blk.new (w3.drew.alloc (.cells A t1)) C t2
  rw [show (w3.drew.alloc (.cells A t1)).heap.size = w3.heap.size + 1 by simp] at h2
  exact ⟨h2, h1.alloc _, ((Fr.refl (fun _ => False) w3).drew.alloc _).alloc _⟩
theorem nilf_fn (w : World) : (binOp .eql 175 (.func (.func 142) #[] #[]) .nilFunc).run Tryz.prog w = .ok (.bool false) w := by kernel_rfl
set_option maxRecDepth 100000 in
set_option maxHeartbeats 2000000 in
theorem openStored_any {f rb a off body N0 : Nat} {h : H} {non : Bool} {t0 t1 t2 x : Value} {D : List UInt8} {E : Errs} {files : Value} {comment : List UInt8} {base : Int} (w : World) (o : Opn w f rb a off body N0 h non t0 t1 t2 x D E files comment base) (hs : slash h.name = false) (hm : h.method = 0) (hdd : (bits .and .u16 h.flags 8 != 0) = false) :
    Calls Tryz.prog 54 #[.pointer (some ⟨f, 0, none⟩)] w (StoredPost f a off body h w) := by
  go_enter Tryz.func54, Tryz.ntmps54
  have HO := Lib.hid o
  have HB := Lib.hid (body_any f a off N0 _ D _ E w o.file rfl rfl o.text o.env rfl o.loc.len o.loc.sig (by have := o.len; omega))
  have hbody := o.loc.body
  have n26 := n2_lt ((D.drop off).take 30) 26
  have n28 := n2_lt ((D.drop off).take 30) 28
  rw [hbody] at HB
  have hbl : body ≤ 200000 := by omega
  have hol := o.offl
  have hp0 := o.packed.1
  have hp1 := o.packed.2
  have HM := Lib.hid hm
  clear o hm hbody n26 n28
  go_wp2_with fail
  refine HB.out.mono ?_
  rintro e w1 ⟨rfl, hb1⟩
  have O1 := Lib.hid (HO.out.below hb1)
  have k0 : w1.cell? ⟨f, 0, none⟩ = some (.string (B h.name)) := O1.out.file.cell 0
  have HB1 := Lib.hid hb1
  have HS := Lib.hid (Tryz.strings_HasSuffix (B h.name) (B [47]) w1 (by rw [size_B]; have := O1.out.nl; omega))
  clear hb1 HB HO
  go_wp2_with fail
  refine HS.out.mono ?_
  rintro e w2 ⟨rfl, rfl⟩
  have hsl : Lib.hasSuffix (B h.name).data.toList (B [47]).data.toList = false := by rw [data_B, data_B]; exact hs
  rw [hsl]
  clear HS hsl hs k0
  have k15 : w2.cell? ⟨f, 15, none⟩ = some (.int .u64 h.packed) := O1.out.file.cell 15
  have k20 : w2.cell? ⟨f, 20, none⟩ = some (textv a) := O1.out.file.cell 20
  have k21 : w2.cell? ⟨f, 21, none⟩ = some (.int .i64 off) := O1.out.file.cell 21
  have k19 : w2.cell? ⟨f, 19, none⟩ = some (.pointer (some ⟨rb, 0, none⟩)) := O1.out.file.cell 19
  have k6 : w2.cell? ⟨f, 6, none⟩ = some (.int .u16 h.method) := O1.out.file.cell 6
  have hfw := O1.out.file.lt
  have cg : w2.cell? ⟨2, 0, none⟩ = some (errv E.alg) := O1.out.env.alg.sen.cell
  have hgl : 2 < w2.heap.size := O1.out.env.alg.sen.lt
  have hn := nilf_fn
  have HD : Hid (∀ w', Fr (fun _ => False) w2 w' → Calls Tryz.prog 82 #[.pointer (some ⟨rb, 0, none⟩), .int .u16 h.method] w' fun e w'' => e = .returned (.func (.func 142) #[] #[]) ∧ w' = w'') := Lib.hid fun w' hf => by
    have := decomp_any rb a files comment base h.method w' (hf.blk O1.out.rdr id)
    rw [HM.out] at this ⊢
    exact this
  go_upto_region 9 with fail
  have hsum : IntKind.i64.wrap ((off : Int) + body) = (off : Int) + body := by
    rw [IntKind.wrap_i64]
    omega
  go_region_with (go_at_call 63; refine (newSection_any a ((off : Int) + body) h.packed _ (by omega) hp0 (by omega)).mono ?_; rintro e w3 ⟨rfl, hw3⟩; have HW3 := Lib.hid hw3; clear hw3)
  all_goals (
    have hf3 : Fr (fun _ => False) w2 w3 := by rw [HW3.out]; exact (Fr.refl (fun _ => False) w2).drew.alloc _
    have hs3 : w2.heap.size ≤ w3.heap.size := by rw [HW3.out]; simp
    have hg3 : 2 < w3.heap.size := by omega
    have m19 : w3.cell? ⟨f, 19, none⟩ = some (.pointer (some ⟨rb, 0, none⟩)) := (hf3.blk O1.out.file id).cell 19
    have m6 : w3.cell? ⟨f, 6, none⟩ = some (.int .u16 h.method) := (hf3.blk O1.out.file id).cell 6
    have HF3 := Lib.hid hf3
    have hp3 : IsPart w3 w2.heap.size a ((off : Int) + body) ((off : Int) + body) ((off : Int) + body + h.packed) h.packed := by rw [HW3.out]; exact Blk.new _ _ _
    have HP3 := Lib.hid hp3
    clear hp3
    clear HW3 hf3 k15 k20 k21 k19 k6 cg hsum
    go_upto_region 10 with fail
    go_region_with (go_at_call 82; refine (HD.out _ ?hh).mono ?_; (case hh => exact HF3.out.drew); rintro e w4 ⟨rfl, hw4⟩; have HW4 := Lib.hid hw4; clear hw4))
  all_goals (
    have e4 := HW4.out
    subst e4
    go_wp2_with fail
    refine (nop_any w2.heap.size _).mono ?_
    rintro e w5 ⟨rfl, rfl⟩
    have HDD := Lib.hid (dataDesc_any f h non t0 t1 t2 x _ _ off w3.drew (HF3.out.drew.blk O1.out.file id))
    rw [hdd] at HDD
    go_wp2_with fail
    refine HDD.out.mono ?_
    rintro e w6 ⟨rfl, rfl⟩
    clear HDD hdd HD HW4 m19 m6
    go_wp2
    go_ret2
    obtain ⟨b1, b2, f1⟩ := stored_fin w3 #[.int .u32 0] (chkCells (nopv w2.heap.size) w3.heap.size f .nilIface 0 .nilIface) 159 179
    have hs1 := HB1.out.size
    have hpl := HP3.out.lt
    exact ⟨w3.heap.size + 1, w2.heap.size, w3.heap.size, rfl, Lib.hid ⟨b1, f1.blk HP3.out id, b2, hs1, by omega, by omega, hpl, by omega, ((Fr.of_below (S := fun _ => False) HB1.out).trans2 (HF3.out.trans2 f1 (U := fun _ => False) (fun _ h => h) (fun _ h => h)) (U := fun _ => False) (fun _ h => h) (fun _ h => h)).below (Nat.le_refl _) (fun _ _ h => h)⟩⟩)
end Go.Proofs.Zip
namespace Go.Proofs.Zip
open Go Go.RowKit
theorem heap_drewN (w : World) (n : Nat) : (w.drewN n).heap = w.heap := by
  induction n with
  | zero => rfl
  | succ n _ => rfl
theorem Blk.drewN {w : World} {b : Nat} {cs : Array Value} {T : TypeId} (h : Blk w b cs T) (n : Nat) : Blk (w.drewN n) b cs T := by rw [Blk, heap_drewN]; exact h
theorem Fr.drewN {S : Nat → Prop} {w w' : World} (h : Fr S w w') (n : Nat) : Fr S w (w'.drewN n) := by
  induction n with
  | zero => exact h
  | succ n ih => exact ih.drew
theorem crcUpd_crc (a b : List UInt8) : crcUpd (crc a) b = crc (a ++ b) := crcUpd_append a b
theorem crc_nil : crc [] = 0 := by decide
theorem crc_step (T M : List UInt8) (k len : Nat) (hM : M = (T.drop k).take len) : crcUpd (crc (T.take k)) M = crc (T.take (k + M.length)) := by
  rw [crcUpd_append]
  congr 1
  subst hM
  rw [List.take_add]
  congr 1
  rw [List.take_eq_take_iff]; simp
/-- A checked reader q over the part s of the text a: k bytes of the part's text T are read. -/
structure Chk (w : World) (q s hb f a b k P : Nat) (D T : List UInt8) : Prop where
  chk : Blk w q (chkCells (nopv s) hb f .nilIface k .nilIface) 179
  part : IsPart w s a (b : Int) ((b + k : Nat) : Int) ((b + P : Nat) : Int) (P : Int)
  hash : IsHash w hb (crc (T.take k))
  text : IsText w a D
/-- The blocks of a checked reader and of its target stand apart; the target is none of the variables. -/
structure ChkApart (q s hb f a g N0 : Nat) : Prop where
  gq : g ≠ q
  gs : g ≠ s
  gh : g ≠ hb
  gf : g ≠ f
  ga : g ≠ a
  qs : q ≠ s
  qh : q ≠ hb
  qf : q ≠ f
  qa : q ≠ a
  sh : s ≠ hb
  sf : s ≠ f
  sa : s ≠ a
  hf : hb ≠ f
  ha : hb ≠ a
  n : N0 ≤ g ∧ N0 ≤ q ∧ N0 ≤ s ∧ N0 ≤ hb
/-- How a checked reader ends, m bytes being read at last. -/
inductive ChkLast (h : H) (E : Errs) (P c m : Nat) : Nat → Addr → Prop where
  | unx (h1 : h.size ≠ (P : Int)) : ChkLast h E P c m 0 E.unx
  | chk (h1 : h.size = (P : Int)) (h2 : h.crc ≠ 0) (h3 : (c : Int) ≠ h.crc) : ChkLast h E P c m m E.chk
  | eof (h1 : h.size = (P : Int)) (h2 : h.crc = 0 ∨ (c : Int) = h.crc) : ChkLast h E P c m m E.eof
/-- What a Read of a checked reader does. -/
def ChkPost (q s hb f a b k P g len : Nat) (h : H) (D T : List UInt8) (E : Errs) (cur : Array Value) (t : TypeId) (w : World) (e : Ending) (w' : World) : Prop :=
  ∃ M, Hid (M = (T.drop k).take len ∧ Blk w' g (put cur 0 M) t ∧ Fr (fun b => b = g ∨ b = s ∨ b = hb ∨ b = q) w w') ∧ k + M.length ≤ P ∧ M.length ≤ len ∧
    ((e = .returned (.tuple #[.int .i64 M.length, .nilIface]) ∧ 0 < M.length ∧ Hid (Chk w' q s hb f a b (k + M.length) P D T)) ∨
     (Hid (k + M.length = P) ∧ ∃ (n : Nat) (x : Addr), e = .returned (.tuple #[.int .i64 n, errv x]) ∧ n ≤ M.length ∧ Hid (ChkLast h E P (crc T) M.length n x)))
set_option maxRecDepth 100000 in
set_option maxHeartbeats 2000000 in
theorem chkRead_any (q s hb f rb a off b k P g cap N0 : Nat) (h : H) (non : Bool) (t0 t1 t2 x : Value) (D T : List UInt8) (cur : Array Value) (t : TypeId) (E : Errs) (w : World) (hc : Chk w q s hb f a b k P D T) (hE : Env w N0 E) (hap : ChkApart q s hb f a g N0) (hf : fileAt w f h non t0 t1 t2 x rb a off)
    (hT : rest D b (b + P) = T) (hTl : T.length = P) (hsz : (P : Int) ≤ h.size) (hsz2 : h.size ≤ 4294967295) (hg : Blk w g cur t) (len : Nat) (hk : k ≤ P) (hlen : 0 < len) (hcap : len ≤ cap) (hcur : len ≤ cur.size) (hl2 : len ≤ 4611686018427387904) (hP : b + P ≤ 4611686018427387904) (hD : D.length ≤ 4611686018427387904) :
    Calls Tryz.prog 215 #[.pointer (some ⟨q, 0, none⟩), .slice (some ⟨g, 0, none⟩) len cap] w (ChkPost q s hb f a b k P g len h D T E cur t w) := by
  have h1 := hE.eof.lt0
  have hrest : rest D (b + k) (b + P) = T.drop k := by rw [rest_drop, hT]
  obtain ⟨r, hr, hr0, hC⟩ := partRead_any s a g 0 len cap (b + k) (b + P) b P D cur t E.eof w hc.text hc.part hg (by omega) hE.eof.sen (by have := hap.n; omega) hap.ga hap.gs hlen hcap hl2 hP hD
  rw [hrest] at hr hr0 hC
  have HC := Lib.hid hC
  go_enter Tryz.func215, Tryz.ntmps215
  have c5 : w.cell? ⟨q, 5, none⟩ = some .nilIface := hc.chk.cell 5
  have c0 : w.cell? ⟨q, 0, none⟩ = some (nopv s) := hc.chk.cell 0
  have HA := Lib.hid hap
  have HH := Lib.hid hc
  have HE := Lib.hid hE
  have HF := Lib.hid hf
  have HG := Lib.hid hg
  have HR := Lib.hid hr
  have HR0 := Lib.hid hr0
  have HTL := Lib.hid hTl
  clear hC hap hc hE hf hg hr hr0 h1 hrest hT hTl
  go_wp2_with fail
  refine HC.out.mono ?_
  rintro e w1 ⟨rfl, hg1, hp1, hf1⟩
  clear HC
  have hml : ((T.drop k).take len).length ≤ len ∧ k + ((T.drop k).take len).length ≤ P := by rw [List.length_take, List.length_drop, HTL.out]; omega
  obtain ⟨M, hM⟩ : ∃ M, M = (T.drop k).take len := ⟨_, rfl⟩
  rw [← hM] at hml hg1 hp1
  obtain ⟨hml, hmP⟩ := hml
  have HM := Lib.hid hM
  have hstep := Lib.hid (crc_step T M k len hM)
  rw [show (T.drop k).take len = M from hM.symm]
  clear hM
  have hq1 : Blk w1 q (chkCells (nopv s) hb f .nilIface k .nilIface) 179 := hf1.blk HH.out.chk (fun h => h.elim (fun e => HA.out.gq e.symm) HA.out.qs)
  have hh1 : IsHash w1 hb (crc (T.take k)) := hf1.blk HH.out.hash (fun h => h.elim (fun e => HA.out.gh e.symm) (fun e => HA.out.sh e.symm))
  have hff1 : fileAt w1 f h non t0 t1 t2 x rb a off := hf1.blk HF.out (fun h => h.elim (fun e => HA.out.gf e.symm) (fun e => HA.out.sf e.symm))
  have ht1 : IsText w1 a D := hf1.blk HH.out.text (fun h => h.elim (fun e => HA.out.ga e.symm) (fun e => HA.out.sa e.symm))
  have k1 : w1.cell? ⟨q, 1, none⟩ = some (.pointer (some ⟨hb, 0, none⟩)) := hq1.cell 1
  have HW : Hid (∀ w', Fr (fun _ => False) w1 w' → Calls Tryz.prog 204 #[.pointer (some ⟨hb, 0, none⟩), .slice (some ⟨g, 0, none⟩) M.length cap] w' fun e w'' => e = .returned (.tuple #[.int .i64 M.length, .nilIface]) ∧ Hid (IsHash w'' hb (crc (T.take (k + M.length))) ∧ Fr (· = hb) w1 w'')) := Lib.hid fun w' hw' => by
    have hg' := hw'.blk hg1 id
    refine (hashWrite_any hb g 0 cap _ M w' (hw'.blk hh1 id) (hg'.range (by have := put_range cur 0 M (by omega); rw [show (u8s M).length = M.length by simp [u8s]]; exact this)) hg'.lt (by omega) (by omega) (crc_lt _)).mono ?_
    rintro e w'' ⟨rfl, h1, h2⟩
    rw [hstep.out] at h1
    exact ⟨rfl, Lib.hid ⟨h1, hw'.trans2 h2 (U := (· = hb)) (fun _ h => h.elim) (fun _ h => h)⟩⟩
  go_upto_region 4 with fail
  go_region_with (go_at_call 204; refine (HW.out _ ?hh).mono ?_; (case hh => exact (Fr.refl _ _).drew); rintro e w4 ⟨rfl, hw4⟩)
  all_goals (
    have hq4 : Blk w4 q (chkCells (nopv s) hb f .nilIface k .nilIface) 179 := hw4.out.2.blk hq1 HA.out.qh
    have hff4 : fileAt w4 f h non t0 t1 t2 x rb a off := hw4.out.2.blk hff1 (fun e => HA.out.hf e.symm)
    have k2 : w4.cell? ⟨q, 2, none⟩ = some (.int .u64 k) := hq4.cell 2
    have f2 : w4.frozen? ⟨q, 2, none⟩ = false := hq4.frozen 2
    have hs1 : IntKind.u64.wrap (M.length : Int) = M.length := by rw [IntKind.wrap_u64]; omega
    have hs2 : IntKind.u64.wrap ((k : Int) + (M.length : Int)) = ((k + M.length : Nat) : Int) := by rw [IntKind.wrap_u64]; omega
    have FR4 : Hid (Fr (fun b => b = g ∨ b = s ∨ b = hb ∨ b = q) w w4) := Lib.hid (hf1.trans2 hw4.out.2 (fun _ h => h.elim .inl (fun h => .inr (.inl h))) (fun _ h => .inr (.inr (.inl h))))
    have HE4 : Hid (Env w4 N0 E) := Lib.hid (HE.out.fr FR4.out (by have := HA.out.n; rintro b (e | e | e | e) <;> subst e <;> omega))
    have HS4 : Hid (IsPart w4 s a (b : Int) ((b + (k + M.length) : Nat) : Int) ((b + P : Nat) : Int) (P : Int) ∧ IsText w4 a D ∧ Blk w4 g (put cur 0 M) t) := Lib.hid ⟨by rw [← Nat.add_assoc]; exact hw4.out.2.blk hp1 HA.out.sh, hw4.out.2.blk ht1 (fun e => HA.out.ha e.symm), hw4.out.2.blk hg1 HA.out.gh⟩
    have HQ4 := Lib.hid hq4
    have HF4 := Lib.hid hff4
    clear HW k1 c5 c0 hq1 hh1 hff1 hf1 hg1 hp1 hq4 hff4 ht1
    go_upto_region 6 with fail
    generalize hW5 : w4.setCell ⟨q, 2, none⟩ (.int .u64 ((k : Int) + (M.length : Int))) = w5
    have hq5 : Blk w5 q (chkCells (nopv s) hb f .nilIface ((k : Int) + (M.length : Int)) .nilIface) 179 := by rw [← hW5]; exact HQ4.out.set 2 _
    have hf5 : fileAt w5 f h non t0 t1 t2 x rb a off := by rw [← hW5]; exact HF4.out.set_ne (fun e => HA.out.qf e.symm) _
    have FR5 : Hid (Fr (fun b => b = g ∨ b = s ∨ b = hb ∨ b = q) w w5) := Lib.hid (by rw [← hW5]; exact FR4.out.setCell (fun _ => .inr (.inr (.inr rfl))) _)
    have HS5 : Hid (IsPart w5 s a (b : Int) ((b + (k + M.length) : Nat) : Int) ((b + P : Nat) : Int) (P : Int) ∧ IsText w5 a D ∧ Blk w5 g (put cur 0 M) t ∧ IsHash w5 hb (crc (T.take (k + M.length)))) := Lib.hid (by rw [← hW5]; exact ⟨HS4.out.1.set_ne (fun e => HA.out.qs e.symm) _, HS4.out.2.1.set_ne (fun e => HA.out.qa e.symm) _, HS4.out.2.2.set_ne (fun e => HA.out.gq e) _, hw4.out.1.set_ne (fun e => HA.out.qh e.symm) _⟩)
    have HE5 : Hid (Env w5 N0 E) := Lib.hid (HE.out.fr FR5.out (by have := HA.out.n; rintro b (e | e | e | e) <;> subst e <;> omega))
    have d2 : w5.cell? ⟨q, 2, none⟩ = some (.int .u64 ((k : Int) + (M.length : Int))) := hq5.cell 2
    have d3 : w5.cell? ⟨q, 3, none⟩ = some (.pointer (some ⟨f, 0, none⟩)) := hq5.cell 3
    have d4 : w5.cell? ⟨q, 4, none⟩ = some .nilIface := hq5.cell 4
    have d1 : w5.cell? ⟨q, 1, none⟩ = some (.pointer (some ⟨hb, 0, none⟩)) := hq5.cell 1
    have d16 : w5.cell? ⟨f, 16, none⟩ = some (.int .u64 h.size) := hf5.cell 16
    have d12 : w5.cell? ⟨f, 12, none⟩ = some (.int .u32 h.crc) := hf5.cell 12
    have f5 : w5.frozen? ⟨q, 5, none⟩ = false := hq5.frozen 5
    have d5 : w5.cell? ⟨q, 5, none⟩ = some .nilIface := hq5.cell 5
    have ge : w5.cell? ⟨5, 0, none⟩ = some (errv E.eof) := HE5.out.eof.sen.cell
    have gu : w5.cell? ⟨4, 0, none⟩ = some (errv E.unx) := HE5.out.unx.sen.cell
    have gc : w5.cell? ⟨3, 0, none⟩ = some (errv E.chk) := HE5.out.chk.sen.cell
    have HQ5 := Lib.hid hq5
    have HF5 := Lib.hid hf5
    clear hq5 hf5 hw4 HE4 HS4 FR4 HQ4 HF4 k2 f2 hW5 hs1 hs2
    go_region)
  all_goals (
    have hz : ¬ h.size < (k : Int) + (M.length : Int) := by omega
    have ceq := eql_same E.eof
    rcases HR.out with hr | ⟨hr, hend⟩
    · subst hr
      have hm0 : 0 < M.length := by
        rcases Nat.eq_zero_or_pos M.length with h0 | h0
        · exfalso
          have hn : T.drop k = [] := by
            have h2 := HM.out
            rw [List.eq_nil_of_length_eq_zero h0] at h2
            rcases List.take_eq_nil_iff.1 h2.symm with h3 | h3
            · omega
            · exact h3
          have := HR0.out hn
          simp [errv] at this
        · exact h0
      have HM0 := Lib.hid hm0
      clear hm0 HR HR0
      go_wp2
      go_ret2
      exact ⟨M, Lib.hid ⟨HM.out, HS5.out.2.2.1.drew, FR5.out.drew⟩, hmP, hml, .inl ⟨rfl, HM0.out, Lib.hid ⟨HQ5.out.drew, HS5.out.1.drew, HS5.out.2.2.2.drew, HS5.out.2.1.drew⟩⟩⟩
    · subst hr
      have hkP : k + M.length = P := by
        have h2 := congrArg List.length HM.out
        have h3 := congrArg List.length hend
        rw [List.length_take, List.length_drop, HTL.out] at h2
        rw [List.length_drop, List.length_drop, HTL.out] at h3
        simp at h3
        omega
      have HKP := Lib.hid hkP
      have htk : T.take (k + M.length) = T := List.take_of_length_le (by rw [HTL.out]; omega)
      have HTK := Lib.hid htk
      clear hend HR HR0 htk
      by_cases hq : h.size = (k : Int) + (M.length : Int)
      · have hne : (((k : Int) + (M.length : Int)) != h.size) = false := by rw [bne_eq_false_iff_eq]; exact hq.symm
        have hqP : h.size = (P : Int) := by omega
        have HQP := Lib.hid hqP
        clear hkP hq hqP
        go_upto_region 10 with fail
        go_region
        go_upto_region 20 with fail
        generalize hW6 : w5.drew.drew = w6
        have hf6 : Fr (fun _ => False) w5 w6 := by rw [← hW6]; exact (Fr.refl _ w5).drew.drew
        have hq6 := hf6.blk HQ5.out id
        have hff6 := hf6.blk HF5.out id
        have HS6 : Hid (IsHash w6 hb (crc T)) := Lib.hid (by
          have := hf6.blk HS5.out.2.2.2 id
          rw [HTK.out] at this
          exact this)
        have fin : Hid (∀ w', Fr (fun b => b = q) w6 w' → Blk w' g (put cur 0 M) t ∧ Fr (fun b => b = g ∨ b = s ∨ b = hb ∨ b = q) w w') := Lib.hid fun w' hf => ⟨hf.blk (hf6.blk HS5.out.2.2.1 id) HA.out.gq, FR5.out.trans2 (hf6.trans2 hf (U := fun b => b = q) (fun _ h => h.elim) (fun _ h => h)) (fun _ h => h) (fun _ h => .inr (.inr (.inr h)))⟩
        clear d1 d2 d3 d4 d5 d12 d16 f5 ge gu gc
        have d1 : w6.cell? ⟨q, 1, none⟩ = some (.pointer (some ⟨hb, 0, none⟩)) := hq6.cell 1
        have d3 : w6.cell? ⟨q, 3, none⟩ = some (.pointer (some ⟨f, 0, none⟩)) := hq6.cell 3
        have d5 : w6.cell? ⟨q, 5, none⟩ = some .nilIface := hq6.cell 5
        have f5 : w6.frozen? ⟨q, 5, none⟩ = false := hq6.frozen 5
        have d12 : w6.cell? ⟨f, 12, none⟩ = some (.int .u32 h.crc) := hff6.cell 12
        have gc : w6.cell? ⟨3, 0, none⟩ = some (errv E.chk) := (HE5.out.fr hf6 (fun _ h => h.elim)).chk.sen.cell
        have HSUM : Hid (∀ n, Calls Tryz.prog 130 #[.pointer (some ⟨hb, 0, none⟩)] (w6.drewN n) fun e w' => e = .returned (.int .u32 (crc T)) ∧ w' = w6.drewN n) := Lib.hid fun n =>
          (hashSum_any hb (crc T) _ (HS6.out.drewN n)).mono fun e w' ⟨h1, h2⟩ => ⟨h1, h2.symm⟩
        clear hf6 hq6 hff6 hW6
        by_cases hz0 : h.crc = 0
        · have hcz : ((h.crc : Int) != 0) = false := by rw [bne_eq_false_iff_eq]; exact hz0
          have HZ := Lib.hid hz0
          clear hz0
          go_quiet (fail)
          go_wp2
          go_ret2
          obtain ⟨z1, z2⟩ := fin.out _ (((Fr.refl (· = q) w6).drewN nq).setCell (a := ⟨q, 5, none⟩) (fun _ => rfl) (errv E.eof))
          exact ⟨M, Lib.hid ⟨HM.out, z1, z2⟩, hmP, hml, .inr ⟨HKP, M.length, E.eof, rfl, Nat.le_refl _, Lib.hid (.eof HQP.out (.inl HZ.out))⟩⟩
        · have hcz : ((h.crc : Int) != 0) = true := by rw [bne_iff_ne]; exact hz0
          have HZ := Lib.hid hz0
          clear hz0
          by_cases hs : ((crc T : Nat) : Int) = h.crc
          · have hsb : (((crc T : Nat) : Int) != h.crc) = false := by rw [bne_eq_false_iff_eq]; exact hs
            have HSB := Lib.hid hs
            clear hs
            go_quiet (first | (go_at_call 130; refine Calls.quiet_of_same (HSUM.out _)))
            go_wp2
            go_ret2
            obtain ⟨z1, z2⟩ := fin.out _ (((Fr.refl (· = q) w6).drewN nq).setCell (a := ⟨q, 5, none⟩) (fun _ => rfl) (errv E.eof))
            exact ⟨M, Lib.hid ⟨HM.out, z1, z2⟩, hmP, hml, .inr ⟨HKP, M.length, E.eof, rfl, Nat.le_refl _, Lib.hid (.eof HQP.out (.inr HSB.out))⟩⟩
          · have hsb : (((crc T : Nat) : Int) != h.crc) = true := by rw [bne_iff_ne]; exact hs
            have HSB := Lib.hid hs
            clear hs
            go_quiet (first | (go_at_call 130; refine Calls.quiet_of_same (HSUM.out _)))
            go_wp2
            go_ret2
            obtain ⟨z1, z2⟩ := fin.out _ (((Fr.refl (· = q) w6).drewN nq).setCell (a := ⟨q, 5, none⟩) (fun _ => rfl) (errv E.chk))
            exact ⟨M, Lib.hid ⟨HM.out, z1, z2⟩, hmP, hml, .inr ⟨HKP, M.length, E.chk, rfl, Nat.le_refl _, Lib.hid (.chk HQP.out HZ.out HSB.out)⟩⟩
      · have hne : (((k : Int) + (M.length : Int)) != h.size) = true := by rw [bne_iff_ne]; exact fun e => hq e.symm
        have hqP : h.size ≠ (P : Int) := by omega
        have HQP := Lib.hid hqP
        clear hkP hq hqP
        go_upto_region 10 with fail
        go_region
        go_upto_region 11 with fail
        go_region
        go_wp2
        go_ret2
        exact ⟨M, Lib.hid ⟨HM.out, HS5.out.2.2.1.drew, FR5.out.drew.drew.drew⟩, hmP, hml, .inr ⟨HKP, 0, E.unx, rfl, Nat.zero_le _, Lib.hid (.unx HQP.out)⟩⟩)
end Go.Proofs.Zip
namespace Go.Proofs.Zip
open Go Go.RowKit
/-- An error and its number. -/
inductive Fault (E : Errs) : Value → Nat → Prop where
  | none : Fault E .nilIface 0
  | fmt : Fault E (errv E.fmt) 1
  | alg : Fault E (errv E.alg) 2
  | chk : Fault E (errv E.chk) 3
  | unx : Fault E (errv E.unx) 4
set_option maxRecDepth 100000 in
theorem fault_any (E : Errs) (N0 : Nat) (v : Value) (n : Nat) (w : World) (hE : Env w N0 E) (hv : Fault E v n) : Calls Tryz.prog 38 #[v] w fun e w' => e = .returned (.int .i64 n) ∧ w = w' := by
  go_enter Tryz.func38, Tryz.ntmps38
  have c0 : w.cell? ⟨1, 0, none⟩ = some (errv E.fmt) := hE.fmt.sen.cell
  have c1 : w.cell? ⟨2, 0, none⟩ = some (errv E.alg) := hE.alg.sen.cell
  have c2 : w.cell? ⟨3, 0, none⟩ = some (errv E.chk) := hE.chk.sen.cell
  have c3 : w.cell? ⟨4, 0, none⟩ = some (errv E.unx) := hE.unx.sen.cell
  have s0 := fun e => eql_same e w
  have ap := Lib.hid hE.apart
  have s1 := eql_other hE.alg.sen hE.fmt.sen (fun h => ap.out.fa h.symm)
  have s2 := eql_other hE.chk.sen hE.fmt.sen (fun h => ap.out.fc h.symm)
  have s3 := eql_other hE.unx.sen hE.fmt.sen (fun h => ap.out.fu h.symm)
  have s4 := eql_other hE.chk.sen hE.alg.sen (fun h => ap.out.ac h.symm)
  have s5 := eql_other hE.unx.sen hE.alg.sen (fun h => ap.out.au h.symm)
  have s6 := eql_other hE.unx.sen hE.chk.sen (fun h => ap.out.cu h.symm)
  have HE := Lib.hid hE
  clear hE
  cases hv <;> (go_wp2; (try rw [Exit.noGoto_ret]); go_ret; exact ⟨rfl, rfl⟩)
end Go.Proofs.Zip
