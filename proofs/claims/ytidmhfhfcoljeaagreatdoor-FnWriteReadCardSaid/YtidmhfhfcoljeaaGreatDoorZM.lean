/- A part of a proof over the given program: Op, OpS, OpM. Nothing is assumed here. -/
import Derived.Test.YtidmhfhfcoljeaaGreatDoorZK
import Derived.Test.YtidmhfhfcoljeaaGreatDoorZJ
import Derived.Test.YtidmhfhfcoljeaaGreatDoorShelf
import Derived.Stop.Asserts
namespace Go.Proofs.Zip
open Go Go.RowKit
abbrev rdrCells (a : Nat) (files : Value) (comment : List UInt8) (base : Int) : Array Value := #[textv a, files, .string (B comment), .map none, .int .i64 base]
abbrev chkCells (rc : Value) (hb f : Nat) (desr : Value) (n : Int) (err : Value) : Array Value := #[rc, .pointer (some ⟨hb, 0, none⟩), .int .u64 n, .pointer (some ⟨f, 0, none⟩), desr, err]
theorem look_nil (m : Int) (w : World) : (Instr.lookup 64 (.map none) (.int .u16 m) false).run Tryz.prog w = .ok .nilFunc w := by kernel_rfl
theorem nilf_nil (w : World) : (binOp .eql 175 .nilFunc .nilFunc).run Tryz.prog w = .ok (.bool true) w := by kernel_rfl
theorem look_nil' (m : Int) (w : World) : (Instr.lookup 64 (.map none) (.int .u16 m) false).run Tryz.prog w = .ok .nilFunc w := look_nil m w
def decV (m : Int) : Value := if m = 0 then .func (.func 142) #[] #[] else .nilFunc
set_option maxRecDepth 100000 in
theorem decomp_any (rb a : Nat) (files : Value) (comment : List UInt8) (base m : Int) (w : World) (hb : Blk w rb (rdrCells a files comment base) 66) : Calls Tryz.prog 82 #[.pointer (some ⟨rb, 0, none⟩), .int .u16 m] w fun e w' => e = .returned (decV m) ∧ w = w' := by
  go_enter Tryz.func82, Tryz.ntmps82
  have c3 : w.cell? ⟨rb, 3, none⟩ = some (.map none) := hb.cell 3
  have hl := look_nil m
  have hn := nilf_nil
  by_cases hm : m = 0
  · subst hm
    go_wp2
    go_ret
    exact ⟨rfl, rfl⟩
  · have hm' : ((m : Int) == 0) = false := by rw [beq_eq_false_iff_ne]; exact hm
    have HM := Lib.hid hm
    clear hm
    go_wp2
    go_ret
    exact ⟨by rw [decV, if_neg HM.out]; rfl, rfl⟩
theorem assert_wt (s : Nat) (w : World) : (Instr.typeAssert (partv s) 89 242 true).run Tryz.prog w = .ok (.tuple #[.nilIface, .bool false]) w := run_typeAssert_lacksB Tryz.underlying242 (by kernel_rfl) (by kernel_rfl) _ _ w
/-- A part behind a Close that does nothing. -/
abbrev nopv (s : Nat) : Value := .iface 308 (.agg #[partv s])
theorem nop_any (s : Nat) (w : World) : Calls Tryz.prog 142 #[partv s] w fun e w' => e = .returned (nopv s) ∧ w = w' := by
  go_enter Tryz.func142, Tryz.ntmps142
  have ha := assert_wt s
  go_wp2
  go_ret
  exact ⟨rfl, rfl⟩
set_option maxRecDepth 100000 in
theorem dataDesc_any (f : Nat) (h : H) (non : Bool) (t0 t1 t2 x zr zipr : Value) (off : Int) (w : World) (hb : Blk w f (fileTexts h non t0 t1 t2 x zr zipr off) 80) :
    Calls Tryz.prog 83 #[.pointer (some ⟨f, 0, none⟩)] w fun e w' => e = .returned (.bool (bits .and .u16 h.flags 8 != 0)) ∧ w = w' := by
  go_enter Tryz.func83, Tryz.ntmps83
  have c5 : w.cell? ⟨f, 5, none⟩ = some (.int .u16 h.flags) := hb.cell 5
  go_wp2
  go_ret
  exact ⟨rfl, rfl⟩
/-- What stands ahead of a file's content in D at off. -/
structure LocalAt (D : List UInt8) (off body : Nat) : Prop where
  len : ((D.drop off).take 30).length = 30
  sig : n4 ((D.drop off).take 30) 0 = 67324752
  body : 30 + n2 ((D.drop off).take 30) 26 + n2 ((D.drop off).take 30) 28 = body
/-- A file of the reader rb over the text a. -/
abbrev fileAt (w : World) (f : Nat) (h : H) (non : Bool) (t0 t1 t2 x : Value) (rb a off : Nat) : Prop := Blk w f (fileTexts h non t0 t1 t2 x (.pointer (some ⟨rb, 0, none⟩)) (textv a) off) 80
/-- Whether a name is a directory's. -/
def slash (n : List UInt8) : Bool := Lib.hasSuffix n [47]
abbrev dirv (q : Nat) : Value := .iface 171 (.pointer (some ⟨q, 0, none⟩))
abbrev chkv (q : Nat) : Value := .iface 177 (.pointer (some ⟨q, 0, none⟩))
/-- What all opens share: to the test of the name. -/
structure Opn (w : World) (f rb a off body N0 : Nat) (h : H) (non : Bool) (t0 t1 t2 x : Value) (D : List UInt8) (E : Errs) (files : Value) (comment : List UInt8) (base : Int) : Prop where
  file : fileAt w f h non t0 t1 t2 x rb a off
  rdr : Blk w rb (rdrCells a files comment base) 66
  text : IsText w a D
  env : Env w N0 E
  loc : LocalAt D off body
  len : D.length ≤ 2305843009213693952
  nl : h.name.length ≤ 60000
  offl : off ≤ 2305843009213693952
  packed : 0 ≤ h.packed ∧ h.packed ≤ 4294967294
theorem Opn.below {w w' : World} {f rb a off body N0 : Nat} {h : H} {non : Bool} {t0 t1 t2 x : Value} {D : List UInt8} {E : Errs} {files : Value} {comment : List UInt8} {base : Int} (o : Opn w f rb a off body N0 h non t0 t1 t2 x D E files comment base) (hb : Below w.heap.size w w') : Opn w' f rb a off body N0 h non t0 t1 t2 x D E files comment base :=
  ⟨below_blk hb o.file, below_blk hb o.rdr, below_blk hb o.text, o.env.below hb, o.loc, o.len, o.nl, o.offl, o.packed⟩
end Go.Proofs.Zip
namespace Go.Proofs.Zip
open Go Go.RowKit
def SlashPost (h : H) (E : Errs) (w : World) (e : Ending) (w' : World) : Prop := ∃ q, e = .returned (.tuple #[dirv q, .nilIface]) ∧ Hid (Blk w' q #[errv (if h.size = 0 then E.eof else E.fmt)] 173 ∧ w.heap.size ≤ q ∧ Below w.heap.size w w')
set_option maxRecDepth 100000 in
set_option maxHeartbeats 2000000 in
theorem openSlash_any (f rb a off body N0 : Nat) (h : H) (non : Bool) (t0 t1 t2 x : Value) (D : List UInt8) (E : Errs) (w : World) (hf : fileAt w f h non t0 t1 t2 x rb a off) (ha : IsText w a D) (hE : Env w N0 E) (hL : LocalAt D off body) (hD : D.length ≤ 2305843009213693952) (hnl : h.name.length ≤ 60000) (hs : slash h.name = true) :
    Calls Tryz.prog 54 #[.pointer (some ⟨f, 0, none⟩)] w (SlashPost h E w) := by
  go_enter Tryz.func54, Tryz.ntmps54
  have HB := Lib.hid (body_any f a off N0 _ D _ E w hf rfl rfl ha hE rfl hL.len hL.sig (by omega))
  have HF := Lib.hid hf
  have HE := Lib.hid hE
  have HL := Lib.hid hL
  clear hf ha hE hL
  go_wp2_with fail
  refine HB.out.mono ?_
  rintro e w1 ⟨rfl, hb1⟩
  have HF1 := Lib.hid (below_blk hb1 HF.out)
  have hE1 := HE.out.below hb1
  have k0 : w1.cell? ⟨f, 0, none⟩ = some (.string (B h.name)) := HF1.out.cell 0
  have k16 : w1.cell? ⟨f, 16, none⟩ = some (.int .u64 h.size) := HF1.out.cell 16
  have ce : w1.cell? ⟨5, 0, none⟩ = some (errv E.eof) := hE1.eof.sen.cell
  have cf : w1.cell? ⟨1, 0, none⟩ = some (errv E.fmt) := hE1.fmt.sen.cell
  have HB1 := Lib.hid hb1
  have HS := Lib.hid (Tryz.strings_HasSuffix (B h.name) (B [47]) w1 (by rw [size_B]; omega))
  clear hb1 hE1 HB
  go_wp2_with fail
  refine HS.out.mono ?_
  rintro e w2 ⟨rfl, rfl⟩
  have hsl : Lib.hasSuffix (B h.name).data.toList (B [47]).data.toList = true := by rw [data_B, data_B]; exact hs
  rw [hsl]
  clear HS hsl hs
  have HQ : Hid (∀ v, v = errv (if h.size = 0 then E.eof else E.fmt) → Hid (Blk (w2.alloc (.cells #[v] 173)) w2.heap.size #[errv (if h.size = 0 then E.eof else E.fmt)] 173 ∧ w.heap.size ≤ w2.heap.size ∧ Below w.heap.size w (w2.alloc (.cells #[v] 173)))) := Lib.hid fun v hv => by
    subst hv
    exact Lib.hid ⟨Blk.new _ _ _, HB1.out.size, HB1.out.alloc HB1.out.size _⟩
  by_cases hz : h.size = 0
  · have hz' : ((h.size : Int) != 0) = false := by rw [bne_eq_false_iff_eq]; exact hz
    have hq := HQ.out (errv E.eof) (by rw [if_pos hz])
    have HQ2 := Lib.hid hq
    clear hz HQ hq
    go_wp2
    go_ret2
    exact ⟨w2.heap.size, rfl, HQ2.out⟩
  · have hz' : ((h.size : Int) != 0) = true := by rw [bne_iff_ne]; exact hz
    have hq := HQ.out (errv E.fmt) (by rw [if_neg hz])
    have HQ2 := Lib.hid hq
    clear hz HQ hq
    go_wp2
    go_ret2
    exact ⟨w2.heap.size, rfl, HQ2.out⟩
end Go.Proofs.Zip
namespace Go.Proofs.Zip
open Go Go.RowKit
set_option maxRecDepth 100000 in
set_option maxHeartbeats 2000000 in
theorem openMethod_any {f rb a off body N0 : Nat} {h : H} {non : Bool} {t0 t1 t2 x : Value} {D : List UInt8} {E : Errs} {files : Value} {comment : List UInt8} {base : Int} (w : World) (o : Opn w f rb a off body N0 h non t0 t1 t2 x D E files comment base) (hs : slash h.name = false) (hm : h.method ≠ 0) :
    Calls Tryz.prog 54 #[.pointer (some ⟨f, 0, none⟩)] w fun e w' => e = .returned (.tuple #[.nilIface, errv E.alg]) ∧ Below w.heap.size w w' := by
  go_enter Tryz.func54, Tryz.ntmps54
  have HO := Lib.hid o
  have HB := Lib.hid (body_any f a off N0 _ D _ E w o.file rfl rfl o.text o.env rfl o.loc.len o.loc.sig (by have := o.len; omega))
  have hbody := o.loc.body
  have n26 := n2_lt ((D.drop off).take 30) 26
  have n28 := n2_lt ((D.drop off).take 30) 28
  rw [hbody] at HB
  have hbl : body ≤ 200000 := by omega
  have hol := o.offl
  have hp0 := o.packed.1
  have hp1 := o.packed.2
  have HM := Lib.hid hm
  clear o hm hbody n26 n28
  go_wp2_with fail
  refine HB.out.mono ?_
  rintro e w1 ⟨rfl, hb1⟩
  have O1 := Lib.hid (HO.out.below hb1)
  have k0 : w1.cell? ⟨f, 0, none⟩ = some (.string (B h.name)) := O1.out.file.cell 0
  have HB1 := Lib.hid hb1
  have HS := Lib.hid (Tryz.strings_HasSuffix (B h.name) (B [47]) w1 (by rw [size_B]; have := O1.out.nl; omega))
  clear hb1 HB HO
  go_wp2_with fail
  refine HS.out.mono ?_
  rintro e w2 ⟨rfl, rfl⟩
  have hsl : Lib.hasSuffix (B h.name).data.toList (B [47]).data.toList = false := by rw [data_B, data_B]; exact hs
  rw [hsl]
  clear HS hsl hs k0
  have k15 : w2.cell? ⟨f, 15, none⟩ = some (.int .u64 h.packed) := O1.out.file.cell 15
  have k20 : w2.cell? ⟨f, 20, none⟩ = some (textv a) := O1.out.file.cell 20
  have k21 : w2.cell? ⟨f, 21, none⟩ = some (.int .i64 off) := O1.out.file.cell 21
  have k19 : w2.cell? ⟨f, 19, none⟩ = some (.pointer (some ⟨rb, 0, none⟩)) := O1.out.file.cell 19
  have k6 : w2.cell? ⟨f, 6, none⟩ = some (.int .u16 h.method) := O1.out.file.cell 6
  have hfw := O1.out.file.lt
  have cg : w2.cell? ⟨2, 0, none⟩ = some (errv E.alg) := O1.out.env.alg.sen.cell
  have hgl : 2 < w2.heap.size := O1.out.env.alg.sen.lt
  have hn := nilf_nil
  have HD : Hid (∀ w', Fr (fun _ => False) w2 w' → Calls Tryz.prog 82 #[.pointer (some ⟨rb, 0, none⟩), .int .u16 h.method] w' fun e w'' => e = .returned .nilFunc ∧ w' = w'') := Lib.hid fun w' hf => by
    have := decomp_any rb a files comment base h.method w' (hf.blk O1.out.rdr id)
    rw [decV, if_neg HM.out] at this
    exact this
  go_upto_region 9 with fail
  have hsum : IntKind.i64.wrap ((off : Int) + body) = (off : Int) + body := by
    rw [IntKind.wrap_i64]
    omega
  go_region_with (go_at_call 63; refine (newSection_any a ((off : Int) + body) h.packed _ (by omega) hp0 (by omega)).mono ?_; rintro e w3 ⟨rfl, hw3⟩; have HW3 := Lib.hid hw3; clear hw3)
  all_goals (
    have hf3 : Fr (fun _ => False) w2 w3 := by rw [HW3.out]; exact (Fr.refl (fun _ => False) w2).drew.alloc _
    have hs3 : w2.heap.size ≤ w3.heap.size := by rw [HW3.out]; simp
    have hg3 : 2 < w3.heap.size := by omega
    have m19 : w3.cell? ⟨f, 19, none⟩ = some (.pointer (some ⟨rb, 0, none⟩)) := (hf3.blk O1.out.file id).cell 19
    have m6 : w3.cell? ⟨f, 6, none⟩ = some (.int .u16 h.method) := (hf3.blk O1.out.file id).cell 6
    have mg : w3.cell? ⟨2, 0, none⟩ = some (errv E.alg) := (O1.out.env.alg.sen.fr hf3 id id).cell
    have HF3 := Lib.hid hf3
    clear HW3 hf3 k15 k20 k21 k19 k6 cg hsum
    go_upto_region 10 with fail
    go_region_with (go_at_call 82; refine (HD.out _ ?hh).mono ?_; (case hh => exact HF3.out.drew); rintro e w4 ⟨rfl, hw4⟩; have HW4 := Lib.hid hw4; clear hw4))
  all_goals (
    have e4 := HW4.out
    subst e4
    have mg4 : w3.drew.cell? ⟨2, 0, none⟩ = some (errv E.alg) := by rw [World.cell?_drew]; exact mg
    have HBF : Hid (∀ w5, Fr (fun _ => False) w3.drew w5 → Below w.heap.size w w5) := Lib.hid fun w5 h5 => ((Fr.of_below (S := fun _ => False) HB1.out).trans2 (HF3.out.drew.trans2 h5 (U := fun _ => False) (fun _ h => h) (fun _ h => h)) (U := fun _ => False) (fun _ h => h) (fun _ h => h)).below (Nat.le_refl _) (fun _ _ h => h)
    clear HD HF3 HB1 O1 HM hbl hol hp0 hp1 m19 m6 HW4
    go_wp2_with fail
    go_region
    all_goals (
    go_wp2
    go_ret2
    exact ⟨rfl, HBF.out _ (by first | exact Fr.refl _ _ | exact (Fr.refl _ _).drew)⟩))
end Go.Proofs.Zip
