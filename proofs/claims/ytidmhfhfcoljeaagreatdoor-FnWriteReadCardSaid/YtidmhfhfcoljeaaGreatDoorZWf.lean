/- A part of a proof over the given program: Ch. Nothing is assumed here. -/
import Derived.Test.YtidmhfhfcoljeaaGreatDoorZWe
import Derived.Test.YtidmhfhfcoljeaaGreatDoorZWa
import Derived.Test.YtidmhfhfcoljeaaGreatDoorZYa
import Derived.Test.YtidmhfhfcoljeaaGreatDoorZF
import Derived.Test.YtidmhfhfcoljeaaGreatDoorZG
import Derived.Test.YtidmhfhfcoljeaaGreatDoorZJ
namespace Go.Proofs.Zip
open Go Go.RowKit
/-! CreateHeader. -/
/-- Whether a name and a comment are told to be UTF-8. -/
def u8B (non : Bool) (n c : List UInt8) : Bool := !non && (((detect n).2 || (detect c).2) && ((detect n).1 && (detect c).1))
/-- A new header. -/
def newH (name comment : List UInt8) (non : Bool) (ext : Int) : H := { name := name, comment := comment, extra := [], non := non, creator := 0, reader := 0, flags := 0, method := 0, time := 0, date := 0, crc := 0, packed := 0, size := 0, ext := ext }
/-- The header that CreateHeader makes of it, before it looks at the name. -/
def midH (name comment : List UInt8) (non : Bool) (ext fl : Int) : H := { newH name comment non ext with creator := 20, reader := 20, flags := fl }
def flagB (non : Bool) (n c : List UInt8) : Int := if u8B non n c then 2048 else 0
/-- The header that it makes. -/
def madeH (name comment : List UInt8) (non : Bool) (ext : Int) : H := midH name comment non ext (flagB non name comment + if slash name then 0 else 8)
abbrev nhCells (h : H) (non : Bool) : Array Value := hdrCells h non (.int .u64 0) (.int .i64 0) (.pointer none) (.slice none 0 0) 0 0
theorem nilf_cmp (w : World) : (binOp .eql 165 (.func (.func 141) #[] #[]) .nilFunc).run Tryz.prog w = .ok (.bool false) w := by kernel_rfl
theorem nilf_cmp0 (w : World) : (binOp .eql 165 .nilFunc .nilFunc).run Tryz.prog w = .ok (.bool true) w := by kernel_rfl
theorem lookup_nil (w : World) : (Instr.lookup 133 (.map none) (.int .u16 0) false).run Tryz.prog w = .ok .nilFunc w := by kernel_rfl
set_option maxRecDepth 100000 in
/-- The compressor of bytes as they are. -/
theorem comp_any (z : Nat) (w : World) (h : w.cell? ⟨z, 4, none⟩ = some (.map none)) : Calls Tryz.prog 78 #[.pointer (some ⟨z, 0, none⟩), .int .u16 0] w fun e w' => e = .returned (.func (.func 141) #[] #[]) ∧ w = w' := by
  have h0 := nilf_cmp0
  have h1 := lookup_nil
  go_enter Tryz.func78, Tryz.ntmps78
  go_wp2_with (first | (go_at_call 109; go_in))
  go_ret
  exact ⟨rfl, rfl⟩
set_option maxRecDepth 100000 in
theorem compr1_any (c : Nat) (w : World) : Calls Tryz.prog 141 #[ccv c] w fun e w' => e = .returned (.tuple #[npv w.heap.size, .nilIface]) ∧ w.alloc (.cells #[ccv c] 273) = w' := by
  go_enter Tryz.func141, Tryz.ntmps141
  go_wp2
  go_ret2
  exact ⟨rfl, rfl⟩
theorem three_blk (w : World) (a b c : Array Value) (ta tb tc : TypeId) : Blk (((w.alloc (.cells a ta)).alloc (.cells b tb)).alloc (.cells c tc)).drew w.heap.size a ta ∧ Blk (((w.alloc (.cells a ta)).alloc (.cells b tb)).alloc (.cells c tc)).drew (w.heap.size + 1) b tb ∧ Blk (((w.alloc (.cells a ta)).alloc (.cells b tb)).alloc (.cells c tc)).drew (w.heap.size + 1 + 1) c tc ∧ Below w.heap.size w (((w.alloc (.cells a ta)).alloc (.cells b tb)).alloc (.cells c tc)).drew := by
  have d : ∀ {W : World} {b : Nat} {cs : Array Value} {t : TypeId}, Blk W b cs t → Blk W.drew b cs t := fun h => ((Fr.refl (fun _ => False) _).drew).blk h id
  refine ⟨d (((Blk.new _ _ _).alloc _).alloc _), d ((Blk.new' _ _ (by simp)).alloc _), d (Blk.new' _ _ (by simp)), ?_⟩
  exact ((((Below.refl _ w).alloc (Nat.le_refl _) _).alloc (by simp) _).alloc (by simp; omega) _).drew
theorem isZero0_any (w : World) : Calls Tryz.prog 71 #[.agg #[.int .u64 0, .int .i64 0, .pointer none]] w fun e w' => e = .returned (.bool true) ∧ Below w.heap.size w w' := by
  go_enter Tryz.func71, Tryz.ntmps71
  go_wp2
  go_ret
  exact ⟨rfl, (Below.refl _ _).alloc (Nat.le_refl _) _⟩
/-- The frame of CreateHeader. -/
def Rch (z fh : Nat) (S : Act → World → Prop) (a : Act) (w : World) : Prop := a.tmps.size = 252 ∧ a.defers = [] ∧ a.tmps.getD 0 undef = .pointer (some ⟨z, 0, none⟩) ∧ a.tmps.getD 1 undef = .pointer (some ⟨fh, 0, none⟩) ∧ S a w
def lvOf : Option Nat → Value
  | none => .pointer none
  | some l => .pointer (some ⟨l, 0, none⟩)
/-- What is made of a file. -/
structure MadeS (C0 : Nat) (w : World) (O : Wr) (z : Nat) (ps : List Pc) (h : H) (lw : Option Nat) : Prop where
  none : lw = Option.none → slash h.name = true ∧ ZwS C0 w O z [] (ps ++ [rawP h []]) Option.none (.pointer Option.none)
  some : ∀ l, lw = Option.some l → slash h.name = false ∧ ∃ ob db rc np cc ch lo es e, e.h = h ∧ ZwD1 C0 w O z ps [] ob db l rc np cc ch lo es e []
set_option maxRecDepth 100000 in
set_option maxHeartbeats 20000000 in
theorem createHeader_any {C0 N0 : Nat} {E0 : Errs} {w0 w : World} {O : Wr} {z : Nat} {ps : List Pc} {lw : Option Nat} {lv : Value} (hS : ZwS C0 w0 O z [] ps lw lv) (hb0 : Below w0.heap.size w0 w) (fh : Nat) (name comment : List UInt8) (non : Bool) (ext : Int) (hfh : Blk w fh (nhCells (newH name comment non ext) non) 78) (hfn : w0.heap.size ≤ fh) (hE : Env w N0 E0) (hN : N0 ≤ C0) (hnm : name.length ≤ 60000) (hcm : comment.length ≤ 60000) (hext : 0 ≤ ext ∧ ext ≤ 4294967295) (hsz : ∀ p ∈ ps, p.data.length ≤ 4294967294) (hlen : (pcsL ps).length ≤ 4294967294) (hcnt : ps.length + 1 ≤ 100000) :
    Calls Tryz.prog 45 #[.pointer (some ⟨z, 0, none⟩), .pointer (some ⟨fh, 0, none⟩)] w fun e w' => ∃ lw', e = .returned (.tuple #[rawOut lw', .nilIface]) ∧ Hid (MadeS C0 w' O z ps (madeH name comment non ext) lw' ∧ Fr (fun b => (C0 ≤ b ∧ b < w0.heap.size) ∨ b = fh) w w') := by
  obtain ⟨c2, hzl, hCz, hCb, db, es, S, hm, hSS, hes, hLK⟩ := hS.lastK hb0 hsz hlen
  have hw0 := hb0.size
  have hnS : ∀ b, w0.heap.size ≤ b → ¬ S b := fun b hb k => by have := (hSS b k).2; omega
  have HP := Lib.hid (prepareK_any z ps.length lw lv w fh _ c2 hLK (by omega) (fun k w1 h1 => ⟨⟨h1.1.choose, h1.1.choose_spec.1.next (((Fr.refl (fun _ => False) w1).drewN k).below (Nat.le_refl _) (fun _ _ h => h)), h1.1.choose_spec.2⟩, h1.2.drewN k⟩) (fun w1 h1 => by
    obtain ⟨ob, k, _⟩ := h1.1
    have := k.zk.prep fh _ (h1.2.blk hfh (hnS fh hfn)) (fun e he => by have := (hes e he).2.1; omega)
    rw [hm.len] at this
    exact this))
  have HF := Lib.hid hfh
  have HE := Lib.hid hE
  have HI := Lib.hid (And.intro hm (And.intro hSS (And.intro hes hnS)))
  have HZ := Lib.hid (And.intro hzl (And.intro hCz (And.intro hCb (And.intro hfn hw0))))
  have FHL := Lib.hid hfh.lt
  clear hS hb0 hfh hE hm hSS hes hnS hLK hzl hCz hCb hfn c2 hw0
  go_enter Tryz.func45, Tryz.ntmps45
  go_wp2_with fail
  refine HP.out.mono ?_
  rintro e w1 ⟨rfl, h1⟩
  obtain ⟨⟨ob, hZ0, hNZ⟩, hF1⟩ := h1.out
  have NZ := Lib.hid hNZ
  have F1 := Lib.hid hF1
  have Z1 := Lib.hid hZ0
  have B1 : Hid (Blk w1 fh (nhCells (newH name comment non ext) non) 78) := Lib.hid (hF1.blk HF.out (HI.out.2.2.2 fh HZ.out.2.2.2.1))
  have E1 : Hid (Env w1 N0 E0) := Lib.hid (HE.out.fr hF1 (fun b hb => Nat.le_trans hN (HI.out.2.1 b hb).1))
  clear h1 hZ0 hNZ hF1 HP HF HE
  have k0 : w1.cell? ⟨fh, 0, none⟩ = some (.string (B name)) := B1.out.cell 0
  have HD1 := Lib.hid (detect_any name w1 E1.out.tabs (Nat.lt_of_lt_of_le E1.out.n1 E1.out.le) (Nat.lt_of_lt_of_le E1.out.n2 E1.out.le) (by omega))
  go_wp2_with fail
  refine HD1.out.mono ?_
  rintro e w2 ⟨rfl, hb2⟩
  have B2 := Lib.hid (below_blk hb2 B1.out)
  have E2 := Lib.hid (E1.out.below hb2)
  have HB2 := Lib.hid hb2
  clear hb2 k0 HD1
  have k1 : w2.cell? ⟨fh, 1, none⟩ = some (.string (B comment)) := B2.out.cell 1
  have HD2 := Lib.hid (detect_any comment w2 E2.out.tabs (Nat.lt_of_lt_of_le E2.out.n1 E2.out.le) (Nat.lt_of_lt_of_le E2.out.n2 E2.out.le) (by omega))
  go_wp2_with fail
  refine HD2.out.mono ?_
  rintro e w3 ⟨rfl, hb3⟩
  have B3 := Lib.hid (below_blk hb3 B2.out)
  have HB3 : Hid (Below w1.heap.size w1 w3) := Lib.hid (below_up HB2.out hb3)
  have E3 := Lib.hid (E2.out.below hb3)
  clear hb3 k1 HD2 E1 E2 B1 B2 HB2
  obtain ⟨v1, hv1⟩ : ∃ v, v = (detect name).1 := ⟨_, rfl⟩
  obtain ⟨r1, hr1⟩ : ∃ v, v = (detect name).2 := ⟨_, rfl⟩
  obtain ⟨v2, hv2⟩ : ∃ v, v = (detect comment).1 := ⟨_, rfl⟩
  obtain ⟨r2, hr2⟩ : ∃ v, v = (detect comment).2 := ⟨_, rfl⟩
  have HU : Hid (flagB non name comment = if (!non && ((r1 || r2) && (v1 && v2))) then 2048 else 0) := Lib.hid (by rw [hv1, hr1, hv2, hr2]; rfl)
  rw [← hv1, ← hr1, ← hv2, ← hr2]
  clear hv1 hr1 hv2 hr2
  go_upto_block 0 with fail
  refine wp_cut (Rch z fh (fun _ wx => ∃ fl : Int, Hid (fl = flagB non name comment ∧ (fl = 0 ∨ fl = 2048) ∧ Blk wx fh (nhCells { newH name comment non ext with flags := fl } non) 78 ∧ Fr (· = fh) w3 wx))) ?rest ?first
  case first =>
    intro J K hJ hK
    have k2 : w3.cell? ⟨fh, 2, none⟩ = some (.bool non) := B3.out.cell 2
    have k5 : w3.cell? ⟨fh, 5, none⟩ = some (.int .u16 0) := B3.out.cell 5
    have f5 : w3.frozen? ⟨fh, 5, none⟩ = false := B3.out.frozen 5
    have FIN0 : Hid (Blk w3 fh (nhCells { newH name comment non ext with flags := 0 } non) 78 ∧ Fr (· = fh) w3 w3) := Lib.hid ⟨B3.out, Fr.refl _ _⟩
    have FIN1 : Hid (∀ fl : Int, Blk (w3.setCell ⟨fh, 5, none⟩ (.int .u16 fl)) fh (nhCells { newH name comment non ext with flags := fl } non) 78 ∧ Fr (· = fh) w3 (w3.setCell ⟨fh, 5, none⟩ (.int .u16 fl))) := Lib.hid fun fl => ⟨B3.out.set 5 _, Fr.set1 w3 fh 5 _⟩
    cases non
    · cases v1 <;> cases r1 <;> cases v2 <;> cases r2
      all_goals as_aux_lemma =>
        go_wp2_with fail
        all_goals refine Met.intro (hJ _ _ ?_)
        all_goals first
          | exact ⟨rfl, rfl, rfl, rfl, 0, Lib.hid ⟨HU.out.symm, .inl rfl, FIN0.out⟩⟩
          | exact ⟨rfl, rfl, rfl, rfl, 2048, Lib.hid ⟨HU.out.symm, .inr rfl, FIN1.out 2048⟩⟩
    · as_aux_lemma =>
        go_wp2_with fail
        all_goals refine Met.intro (hJ _ _ ?_)
        all_goals exact ⟨rfl, rfl, rfl, rfl, 0, Lib.hid ⟨HU.out.symm, .inl rfl, FIN1.out 0⟩⟩
  case rest =>
    intro a' w4 hR
    obtain ⟨q1, q2, r0, r1', fl, h4⟩ := hR
    obtain ⟨u, rfl⟩ := frame252 a' q1 q2
    have u0 : u 0 = .pointer (some ⟨z, 0, none⟩) := r0
    have u1 : u 1 = .pointer (some ⟨fh, 0, none⟩) := r1'
    rw [u0, u1]
    clear q1 q2 r0 r1' u0 u1
    have HFL := Lib.hid (And.intro h4.out.1 h4.out.2.1)
    have B4 := Lib.hid h4.out.2.2.1
    have F4 : Hid (Fr (· = fh) w3 w4) := Lib.hid h4.out.2.2.2
    clear h4 B3 HU
    have k3 : w4.cell? ⟨fh, 3, none⟩ = some (.int .u16 0) := B4.out.cell 3
    have f3 : w4.frozen? ⟨fh, 3, none⟩ = false := B4.out.frozen 3
    have e20 : bits .or .u16 (bits .and .u16 0 65280) 20 = 20 := by decide
    go_upto_region 11 with fail
    clear e20
    have B5 : Blk (w4.setCell ⟨fh, 3, none⟩ (.int .u16 20)) fh (nhCells { newH name comment non ext with flags := fl, creator := 20 } non) 78 := B4.out.set 3 _
    have F5 : Fr (· = fh) w3 (w4.setCell ⟨fh, 3, none⟩ (.int .u16 20)) := F4.out.setCell (fun _ => rfl) _
    clear k3 f3 B4 F4
    generalize w4.setCell ⟨fh, 3, none⟩ (.int .u16 20) = w5 at B5 F5 ⊢
    have HB5 := Lib.hid B5
    have HF5 := Lib.hid F5
    have k4 : w5.cell? ⟨fh, 4, none⟩ = some (.int .u16 0) := B5.cell 4
    have f4 : w5.frozen? ⟨fh, 4, none⟩ = false := B5.frozen 4
    clear B5 F5
    go_upto_region 12 with fail
    have B6 : Blk (w5.setCell ⟨fh, 4, none⟩ (.int .u16 20)) fh (nhCells (midH name comment non ext fl) non) 78 := HB5.out.set 4 _
    have F6 : Fr (· = fh) w3 (w5.setCell ⟨fh, 4, none⟩ (.int .u16 20)) := HF5.out.setCell (fun _ => rfl) _
    clear k4 f4 HB5 HF5
    generalize w5.setCell ⟨fh, 4, none⟩ (.int .u16 20) = w6 at B6 F6 ⊢
    have HB6 := Lib.hid B6
    have HF6 := Lib.hid F6
    have hr7 : w6.rangeAt fh 7 [.int .u64 0, .int .i64 0, .pointer none] := B6.range (by rfl)
    clear B6 F6
    go_wp2_with (first | (refine wpList_load_mid rfl 74 _ rfl fh 7 rfl [.int .u64 0, .int .i64 0, .pointer none] _ hr7 Tryz.underlying74 rfl (by kernel_rfl) ?_))
    refine (isZero0_any w6).mono ?_
    rintro e w7 ⟨rfl, hb7⟩
    have B7 := Lib.hid (below_blk hb7 HB6.out)
    have F7 : Hid (Fr (· = fh) w3 w7) := Lib.hid (HF6.out.trans2 (Fr.of_below (S := fun _ => False) hb7) (fun _ h => h) (fun _ h => h.elim))
    clear hb7 HB6 HF6 hr7
    go_upto_region 24 with fail
    have HW3 : Hid (Below w1.heap.size w1 w7 ∨ True) := Lib.hid (.inr trivial)
    have nfh : ¬ Zall O ob z db lw fh := fun e => by
      have h1 := NZ.out fh FHL.out e
      have h2 := HZ.out.2.2.2.1
      omega
    have F17 : Hid (Fr (· = fh) w1 w7) := Lib.hid ((Fr.of_below (S := (· = fh)) HB3.out).trans2 F7.out (fun _ h => h) (fun _ h => h))
    have Z7 : Hid (ZwK w7 O z (pcsL ps) ob db lw es lv false []) := Lib.hid (Z1.out.zk.fr F17.out (fun b hb e => nfh (e ▸ (hb.imp id (fun k => k.imp id .inl)))) (fun k hk => by
      have h1 := HI.out.2.2.1 k hk
      have h2 := HZ.out.2.2.2.1
      exact ⟨by omega, by omega, fun d hd => by have := h1.2.2 d hd; omega⟩))
    have o1 : w7.cell? ⟨z, 0, none⟩ = some (.pointer (some ⟨O.cw, 0, none⟩)) := by obtain ⟨dv, hzb, _⟩ := Z7.out.zb; exact hzb.cell 0
    have o2 : w7.cell? ⟨O.cw, 1, none⟩ = some (.int .i64 (pcsL ps).length) := Z7.out.out.cw.cell 1
    have n0 : IntKind.u64.wrap ((pcsL ps).length : Int) = (pcsL ps).length := by rw [IntKind.wrap_u64]; omega
    obtain ⟨hb, hhb⟩ : ∃ hb, hb = w7.heap.size := ⟨_, rfl⟩
    have BH8 : Hid (Blk (w7.alloc (.cells #[.pointer (some ⟨fh, 0, none⟩), .int .u64 (pcsL ps).length, .bool false] 153)) hb #[.pointer (some ⟨fh, 0, none⟩), .int .u64 (pcsL ps).length, .bool false] 153) := Lib.hid (by rw [hhb]; exact Blk.new _ _ _)
    have B8 := Lib.hid (B7.out.alloc (.cells #[.pointer (some ⟨fh, 0, none⟩), .int .u64 (pcsL ps).length, .bool false] 153))
    have Z8 := Lib.hid (Z7.out.next ((Below.refl _ _).alloc (Nat.le_refl _) (.cells #[.pointer (some ⟨fh, 0, none⟩), .int .u64 (pcsL ps).length, .bool false] 153)))
    have F18 := Lib.hid (F17.out.alloc (.cells #[.pointer (some ⟨fh, 0, none⟩), .int .u64 (pcsL ps).length, .bool false] 153))
    have S8 : Hid ((w7.alloc (.cells #[.pointer (some ⟨fh, 0, none⟩), .int .u64 (pcsL ps).length, .bool false] 153)).heap.size = hb + 1 ∧ w1.heap.size ≤ hb ∧ (∀ b, Zall O ob z db lw b → b < hb)) := Lib.hid ⟨by rw [hhb]; simp, by rw [hhb]; exact F17.out.size, by rw [hhb]; exact Z7.out.lt⟩
    clear HW3
    go_upto_region 25 with fail
    rw [← hhb]
    generalize (w7.alloc (.cells #[.pointer (some ⟨fh, 0, none⟩), .int .u64 (pcsL ps).length, .bool false] 153)) = w8 at BH8 B8 Z8 F18 S8 ⊢
    clear hhb o1 o2 n0 Z7 F17 B7 F7 HB3 E3
    have k0 : w8.cell? ⟨fh, 0, none⟩ = some (.string (B name)) := B8.out.cell 0
    have HSX : Hid (Calls Tryz.prog 77 #[.string (B name), .string "/".toUTF8] w8 fun e w' => e = .returned (.bool (slash name)) ∧ w8 = w') := Lib.hid ((Tryz.strings_HasSuffix (B name) "/".toUTF8 w8 (by rw [size_B]; omega)).mono (by
      rintro e w' ⟨rfl, rfl⟩
      refine ⟨?_, rfl⟩
      rw [data_B]
      rfl))
    go_upto_if 140 with (go_at_call 77; refine HSX.out.mono ?_; rintro e w9 ⟨rfl, rfl⟩)
    clear HSX k0
    have EFL : Hid ((bits .andNot .u16 fl 8 = fl) ∧ (bits .or .u16 fl 8 = fl + 8) ∧ 0 ≤ fl ∧ fl ≤ 2048) := Lib.hid (by
      rcases HFL.out.2 with e | e <;> subst e <;> decide)
    refine wp_cut (Rch z fh (fun a wx => ∃ lw', a.tmps.getD 14 undef = rawOut lw' ∧ a.tmps.getD 15 undef = lvOf lw' ∧ a.tmps.getD 16 undef = .pointer (some ⟨hb, 0, none⟩) ∧ Hid ((slash name = true ↔ lw' = none) ∧ Blk wx fh (nhCells (madeH name comment non ext) non) 78 ∧ Fr (· = fh) w8 wx ∧ ∀ l, lw' = some l → ∃ rc np cc ch, Ckw wx O l hb rc np cc ch (hb + 1) [] false ∧ rc < wx.heap.size))) ?rest2 ?first2
    case first2 =>
      intro J K hJ hK
      cases hsl : slash name with
      | true =>
        have hmd : madeH name comment non ext = midH name comment non ext fl := by
          unfold madeH
          rw [hsl, ← HFL.out.1]
          simp
        have HSL := Lib.hid (And.intro hsl hmd)
        have efl := EFL.out.1
        have C0 := Lib.hid B8.out
        have G0 : Hid (Fr (· = fh) w8 w8) := Lib.hid (Fr.refl _ _)
        clear hsl hmd
        as_aux_lemma =>
          have k : w8.cell? ⟨fh, 6, none⟩ = some (.int .u16 0) := C0.out.cell 6
          have f : w8.frozen? ⟨fh, 6, none⟩ = false := C0.out.frozen 6
          go_upto_region 27 with fail
          have c : Blk (w8.setCell ⟨fh, 6, none⟩ (.int .u16 0)) fh (nhCells (midH name comment non ext fl) non) 78 := C0.out.set 6 _
          have g : Fr (· = fh) w8 (w8.setCell ⟨fh, 6, none⟩ (.int .u16 0)) := G0.out.setCell (fun _ => rfl) _
          clear k f
          generalize w8.setCell ⟨fh, 6, none⟩ (.int .u16 0) = x1 at c g ⊢
          have C1 := Lib.hid c
          have G1 := Lib.hid g
          clear c g
          have k : x1.cell? ⟨fh, 5, none⟩ = some (.int .u16 fl) := C1.out.cell 5
          have f : x1.frozen? ⟨fh, 5, none⟩ = false := C1.out.frozen 5
          go_upto_region 28 with fail
          have c : Blk (x1.setCell ⟨fh, 5, none⟩ (.int .u16 fl)) fh (nhCells (midH name comment non ext fl) non) 78 := C1.out.set 5 _
          have g : Fr (· = fh) w8 (x1.setCell ⟨fh, 5, none⟩ (.int .u16 fl)) := G1.out.setCell (fun _ => rfl) _
          clear k f
          generalize x1.setCell ⟨fh, 5, none⟩ (.int .u16 fl) = x2 at c g ⊢
          have C2 := Lib.hid c
          have G2 := Lib.hid g
          clear c g
          have k : x2.cell? ⟨fh, 13, none⟩ = some (.int .u32 0) := C2.out.cell 13
          have f : x2.frozen? ⟨fh, 13, none⟩ = false := C2.out.frozen 13
          go_upto_region 29 with fail
          have c : Blk (x2.setCell ⟨fh, 13, none⟩ (.int .u32 0)) fh (nhCells (midH name comment non ext fl) non) 78 := C2.out.set 13 _
          have g : Fr (· = fh) w8 (x2.setCell ⟨fh, 13, none⟩ (.int .u32 0)) := G2.out.setCell (fun _ => rfl) _
          clear k f
          generalize x2.setCell ⟨fh, 13, none⟩ (.int .u32 0) = x3 at c g ⊢
          have C3 := Lib.hid c
          have G3 := Lib.hid g
          clear c g
          have k : x3.cell? ⟨fh, 15, none⟩ = some (.int .u64 0) := C3.out.cell 15
          have f : x3.frozen? ⟨fh, 15, none⟩ = false := C3.out.frozen 15
          go_upto_region 30 with fail
          have c : Blk (x3.setCell ⟨fh, 15, none⟩ (.int .u64 0)) fh (nhCells (midH name comment non ext fl) non) 78 := C3.out.set 15 _
          have g : Fr (· = fh) w8 (x3.setCell ⟨fh, 15, none⟩ (.int .u64 0)) := G3.out.setCell (fun _ => rfl) _
          clear k f
          generalize x3.setCell ⟨fh, 15, none⟩ (.int .u64 0) = x4 at c g ⊢
          have C4 := Lib.hid c
          have G4 := Lib.hid g
          clear c g
          have k : x4.cell? ⟨fh, 14, none⟩ = some (.int .u32 0) := C4.out.cell 14
          have f : x4.frozen? ⟨fh, 14, none⟩ = false := C4.out.frozen 14
          go_upto_region 31 with fail
          have c : Blk (x4.setCell ⟨fh, 14, none⟩ (.int .u32 0)) fh (nhCells (midH name comment non ext fl) non) 78 := C4.out.set 14 _
          have g : Fr (· = fh) w8 (x4.setCell ⟨fh, 14, none⟩ (.int .u32 0)) := G4.out.setCell (fun _ => rfl) _
          clear k f
          generalize x4.setCell ⟨fh, 14, none⟩ (.int .u32 0) = x5 at c g ⊢
          have C5 := Lib.hid c
          have G5 := Lib.hid g
          clear c g
          have k : x5.cell? ⟨fh, 16, none⟩ = some (.int .u64 0) := C5.out.cell 16
          have f : x5.frozen? ⟨fh, 16, none⟩ = false := C5.out.frozen 16
          go_upto_region 32 with fail
          have c : Blk (x5.setCell ⟨fh, 16, none⟩ (.int .u64 0)) fh (nhCells (midH name comment non ext fl) non) 78 := C5.out.set 16 _
          have g : Fr (· = fh) w8 (x5.setCell ⟨fh, 16, none⟩ (.int .u64 0)) := G5.out.setCell (fun _ => rfl) _
          clear k f
          generalize x5.setCell ⟨fh, 16, none⟩ (.int .u64 0) = x6 at c g ⊢
          have C6 := Lib.hid c
          have G6 := Lib.hid g
          clear c g
          go_wp2_with fail
          all_goals refine Met.intro (hJ _ _ ?_)
          all_goals exact ⟨rfl, rfl, rfl, rfl, none, rfl, rfl, rfl, Lib.hid ⟨by simp [HSL.out.1], by rw [HSL.out.2]; exact C6.out, G6.out, fun l e => by cases e⟩⟩
      | false =>
        have hmd : madeH name comment non ext = midH name comment non ext (fl + 8) := by
          unfold madeH
          rw [hsl, ← HFL.out.1]
          simp
        have HSL := Lib.hid (And.intro hsl hmd)
        have efl := EFL.out.2.1
        have k : w8.cell? ⟨fh, 5, none⟩ = some (.int .u16 fl) := B8.out.cell 5
        have f : w8.frozen? ⟨fh, 5, none⟩ = false := B8.out.frozen 5
        clear hsl hmd
        go_upto_region 34 with fail
        have C1 : Hid (Blk (w8.setCell ⟨fh, 5, none⟩ (.int .u16 (fl + 8))) fh (nhCells (midH name comment non ext (fl + 8)) non) 78) := Lib.hid (B8.out.set 5 _)
        have G1 : Hid (Fr (· = fh) w8 (w8.setCell ⟨fh, 5, none⟩ (.int .u16 (fl + 8)))) := Lib.hid (Fr.set1 w8 fh 5 _)
        clear k f efl
        generalize w8.setCell ⟨fh, 5, none⟩ (.int .u16 (fl + 8)) = w9 at C1 G1 ⊢
        have hz8 : z < w8.heap.size := Z8.out.lt z (.inr (.inl rfl))
        have hz9 : z < w9.heap.size := Nat.lt_of_lt_of_le hz8 G1.out.size
        have zfh : ¬ z = fh := fun e => nfh (e ▸ (.inr (.inl rfl)))
        have o1 : w9.cell? ⟨z, 0, none⟩ = some (.pointer (some ⟨O.cw, 0, none⟩)) := by
          rw [G1.out.cell hz8 zfh]
          obtain ⟨dv, hzb, _⟩ := Z8.out.zb
          exact hzb.cell 0
        have o3 : w9.cell? ⟨z, 4, none⟩ = some (.map none) := by
          rw [G1.out.cell hz8 zfh]
          obtain ⟨dv, hzb, _⟩ := Z8.out.zb
          exact hzb.cell 4
        have O3 := Lib.hid o3
        clear o3
        refine wp_cut (Rch z fh (fun a wx => ∃ l cc ch, a.tmps.getD 15 undef = .pointer (some ⟨l, 0, none⟩) ∧ a.tmps.getD 16 undef = .pointer (some ⟨hb, 0, none⟩) ∧ Hid (Blk wx l #[.pointer none, cwv O, .pointer none, .nilIface, .pointer (some ⟨cc, 0, none⟩), .pointer (some ⟨ch, 0, none⟩), .bool false] 163 ∧ Blk wx cc #[cwv O, .int .i64 0] 130 ∧ Blk wx ch #[.int .u32 0] 159 ∧ hb + 1 ≤ cc ∧ hb + 1 ≤ ch ∧ cc ≠ ch ∧ cc < l ∧ ch < l ∧ Below w9.heap.size w9 wx))) ?rest34 ?first34
        case first34 =>
          intro J3 K3 hJ3 hK3
          go_region
          all_goals refine hK3 _ _ (Met.intro (hJ3 _ _ ?_))
          all_goals go_simp
          all_goals
            have hs1 := S8.out.1
            have hs2 := G1.out.size
            first
              | (have T := three_blk w9 #[cwv O, .int .i64 0] #[.int .u32 0] #[.pointer none, cwv O, .pointer none, .nilIface, .pointer (some ⟨w9.heap.size, 0, none⟩), .pointer (some ⟨w9.heap.size + 1, 0, none⟩), .bool false] 130 159 163
                 exact ⟨rfl, rfl, rfl, rfl, _, rfl, rfl, _, _, Lib.hid ⟨T.2.2.1, T.1, T.2.1, by omega, by omega, by omega, by omega, by omega, T.2.2.2⟩⟩)
              | (have T := three_blk w9 #[.int .u32 0] #[cwv O, .int .i64 0] #[.pointer none, cwv O, .pointer none, .nilIface, .pointer (some ⟨w9.heap.size + 1, 0, none⟩), .pointer (some ⟨w9.heap.size, 0, none⟩), .bool false] 159 130 163
                 exact ⟨rfl, rfl, rfl, rfl, _, rfl, rfl, _, _, Lib.hid ⟨T.2.2.1, T.2.1, T.1, by omega, by omega, by omega, by omega, by omega, T.2.2.2⟩⟩)
        case rest34 =>
          intro a' x1 hR
          obtain ⟨q1, q2, r0, r1', l, cc, ch, r15, r16, h34⟩ := hR
          obtain ⟨v, rfl⟩ := frame252 a' q1 q2
          have v0 : v 0 = .pointer (some ⟨z, 0, none⟩) := r0
          have v1 : v 1 = .pointer (some ⟨fh, 0, none⟩) := r1'
          have v15 : v 15 = .pointer (some ⟨l, 0, none⟩) := r15
          have v16 : v 16 = .pointer (some ⟨hb, 0, none⟩) := r16
          rw [v0, v1, v15, v16]
          clear q1 q2 r0 r1' r15 r16 v0 v1 v15 v16
          obtain ⟨bl, bcc, bch, n1, n2, n3, n4, n5, hbw⟩ := h34.out
          have ND := Lib.hid (And.intro n1 (And.intro n2 (And.intro n3 (And.intro n4 n5))))
          have X1 : Hid (Blk x1 fh (nhCells (midH name comment non ext (fl + 8)) non) 78) := Lib.hid (below_blk hbw C1.out)
          have BL1 := Lib.hid bl
          have CC1 := Lib.hid bcc
          have CH1 := Lib.hid bch
          have GX1 : Hid (Fr (· = fh) w8 x1) := Lib.hid (G1.out.trans2 (Fr.of_below (S := fun _ => False) hbw) (fun _ h => h) (fun _ h => h.elim))
          have c4 : x1.cell? ⟨z, 4, none⟩ = some (.map none) := (hbw.cell (p := ⟨z, 4, none⟩) hz9).trans O3.out
          have HCM := Lib.hid (comp_any z x1 c4)
          have k6 : x1.cell? ⟨fh, 6, none⟩ = some (.int .u16 0) := X1.out.cell 6
          have k4 : x1.cell? ⟨l, 4, none⟩ = some (.pointer (some ⟨cc, 0, none⟩)) := bl.cell 4
          have k3 : ∀ o, (x1.alloc o).cell? ⟨l, 3, none⟩ = some .nilIface := fun o => (bl.alloc o).cell 3
          have f3 : ∀ o, (x1.alloc o).frozen? ⟨l, 3, none⟩ = false := fun o => (bl.alloc o).frozen 3
          have hnf := nilf_cmp
          have hll := bl.lt
          clear h34 bl bcc bch n1 n2 n3 n4 n5 hbw c4 o1
          go_wp2_with fail
          refine HCM.out.mono ?_
          rintro e y ⟨rfl, rfl⟩
          go_wp2_with fail
          refine (compr1_any cc x1).mono ?_
          rintro e y ⟨rfl, rfl⟩
          go_upto_region 42 with fail
          have b2 : Blk ((x1.setCell ⟨l, 3, none⟩ (npv x1.heap.size)).alloc (.cells #[ccv cc] 273)) l #[.pointer none, cwv O, .pointer none, npv x1.heap.size, .pointer (some ⟨cc, 0, none⟩), .pointer (some ⟨ch, 0, none⟩), .bool false] 163 := (BL1.out.set 3 _).alloc _
          have np2 : Blk ((x1.setCell ⟨l, 3, none⟩ (npv x1.heap.size)).alloc (.cells #[ccv cc] 273)) x1.heap.size #[ccv cc] 273 := Blk.new' _ _ (by simp [World.setCell])
          have g2 : Fr (fun b => b = l) x1 ((x1.setCell ⟨l, 3, none⟩ (npv x1.heap.size)).alloc (.cells #[ccv cc] 273)) := (Fr.set1 x1 l 3 _).alloc _
          have s2 : ((x1.setCell ⟨l, 3, none⟩ (npv x1.heap.size)).alloc (.cells #[ccv cc] 273)).heap.size = x1.heap.size + 1 := by simp [World.setCell]
          have BL2 := Lib.hid b2
          have NP2 := Lib.hid np2
          have G2 := Lib.hid g2
          have S2 := Lib.hid s2
          clear b2 np2 g2 s2 k6 k4 k3 f3 hnf HCM
          generalize (x1.setCell ⟨l, 3, none⟩ (npv x1.heap.size)).alloc (.cells #[ccv cc] 273) = x2 at BL2 NP2 G2 S2 ⊢
          have k3 : x2.cell? ⟨l, 3, none⟩ = some (npv x1.heap.size) := BL2.out.cell 3
          have k2 : ∀ o, (x2.alloc o).cell? ⟨l, 2, none⟩ = some (.pointer none) := fun o => (BL2.out.alloc o).cell 2
          have f2 : ∀ o, (x2.alloc o).frozen? ⟨l, 2, none⟩ = false := fun o => (BL2.out.alloc o).frozen 2
          have hl2 : l < x2.heap.size := BL2.out.lt
          go_upto_region 43 with fail
          have b3 : Blk ((x2.setCell ⟨l, 2, none⟩ (.pointer (some ⟨x2.heap.size, 0, none⟩))).alloc (.cells #[npv x1.heap.size, .int .i64 0] 130)) l #[.pointer none, cwv O, .pointer (some ⟨x2.heap.size, 0, none⟩), npv x1.heap.size, .pointer (some ⟨cc, 0, none⟩), .pointer (some ⟨ch, 0, none⟩), .bool false] 163 := (BL2.out.set 2 _).alloc _
          have rc3 : Blk ((x2.setCell ⟨l, 2, none⟩ (.pointer (some ⟨x2.heap.size, 0, none⟩))).alloc (.cells #[npv x1.heap.size, .int .i64 0] 130)) x2.heap.size #[npv x1.heap.size, .int .i64 0] 130 := Blk.new' _ _ (by simp [World.setCell])
          have g3 : Fr (fun b => b = l) x2 ((x2.setCell ⟨l, 2, none⟩ (.pointer (some ⟨x2.heap.size, 0, none⟩))).alloc (.cells #[npv x1.heap.size, .int .i64 0] 130)) := (Fr.set1 x2 l 2 _).alloc _
          have BL3 := Lib.hid b3
          have RC3 := Lib.hid rc3
          have G3 := Lib.hid g3
          clear b3 rc3 g3 k3 k2 f2
          generalize (x2.setCell ⟨l, 2, none⟩ (.pointer (some ⟨x2.heap.size, 0, none⟩))).alloc (.cells #[npv x1.heap.size, .int .i64 0] 130) = x3 at BL3 RC3 G3 ⊢
          have k0 : x3.cell? ⟨l, 0, none⟩ = some (.pointer none) := BL3.out.cell 0
          have f0 : x3.frozen? ⟨l, 0, none⟩ = false := BL3.out.frozen 0
          have FIN : Hid ((slash name = true ↔ (some l : Option Nat) = none) ∧ Blk (x3.setCell ⟨l, 0, none⟩ (.pointer (some ⟨hb, 0, none⟩))) fh (nhCells (madeH name comment non ext) non) 78 ∧ Fr (· = fh) w8 (x3.setCell ⟨l, 0, none⟩ (.pointer (some ⟨hb, 0, none⟩))) ∧ ∀ l', some l = some l' → ∃ rc np cc ch, Ckw (x3.setCell ⟨l, 0, none⟩ (.pointer (some ⟨hb, 0, none⟩))) O l' hb rc np cc ch (hb + 1) [] false ∧ rc < (x3.setCell ⟨l, 0, none⟩ (.pointer (some ⟨hb, 0, none⟩))).heap.size) := Lib.hid (by
            obtain ⟨n1, n2, n3, n4, n5⟩ := ND.out
            have s2 := S2.out
            have s3 := G3.out.size
            have G4 := Fr.set1 x3 l 0 (.pointer (some ⟨hb, 0, none⟩))
            have lfh : ¬ fh = l := fun e => by
              have := S8.out.2.1
              have h1 := F1.out.size
              have h2 := FHL.out
              omega
            have hl8 : w8.heap.size ≤ l := by have := S8.out.1; omega
            have GA : Fr (fun b => b = l) x1 (x3.setCell ⟨l, 0, none⟩ (.pointer (some ⟨hb, 0, none⟩))) := (G2.out.trans2 G3.out (fun _ h => h) (fun _ h => h)).trans2 G4 (fun _ h => h) (fun _ h => h)
            refine ⟨by simp [HSL.out.1], ?_, ?_, fun l' e => ?_⟩
            · rw [HSL.out.2]
              exact GA.blk X1.out lfh
            · exact GX1.out.trans GA (fun b hb e => by omega)
            · cases e
              refine ⟨x2.heap.size, x1.heap.size, cc, ch, ⟨BL3.out.set 0 _, G4.blk RC3.out (by omega), G4.blk (G3.out.blk NP2.out (by omega)) (by omega), GA.blk CC1.out (by omega), ?_, ?_⟩, ?_⟩
              · have := GA.blk CH1.out (by omega)
                rw [← crc_nil] at this
                exact this
              · exact ⟨by omega, n1, n2, n3, n4, n5, by omega, by omega⟩
              · have := RC3.out.lt
                have h4 := G4.size
                omega)
          go_wp2_with fail
          all_goals refine Met.intro (hJ _ _ ?_)
          all_goals exact ⟨rfl, rfl, rfl, rfl, some l, rfl, rfl, rfl, FIN⟩
    case rest2 =>
      clear EFL
      intro a'' x hR
      obtain ⟨q1, q2, r0, r1', lw', r14, r15, r16, hX⟩ := hR
      obtain ⟨v, rfl⟩ := frame252 a'' q1 q2
      have v0 : v 0 = .pointer (some ⟨z, 0, none⟩) := r0
      have v1 : v 1 = .pointer (some ⟨fh, 0, none⟩) := r1'
      have v14 : v 14 = rawOut lw' := r14
      have v15 : v 15 = lvOf lw' := r15
      have v16 : v 16 = .pointer (some ⟨hb, 0, none⟩) := r16
      rw [v0, v1, v14, v15, v16]
      clear q1 q2 r0 r1' r14 r15 r16 v0 v1 v14 v15 v16 u
      obtain ⟨hsl, bfx, fx, hck⟩ := hX.out
      obtain ⟨h, hh⟩ : ∃ h, h = madeH name comment non ext := ⟨_, rfl⟩
      have hw0 : w0.heap.size ≤ w.heap.size := HZ.out.2.2.2.2
      have hfn := HZ.out.2.2.2.1
      have hfl := FHL.out
      have hs1 := F1.out.size
      have hs8 := S8.out.1
      have hs8' := S8.out.2.1
      have hsx := fx.size
      have zlt := S8.out.2.2
      have HOKH : HOk h := by
        rw [hh]
        have hf : 0 ≤ flagB non name comment ∧ flagB non name comment ≤ 2048 := by
          unfold flagB
          split <;> omega
        refine ⟨(by simp [madeH, midH, newH]), (by simp [madeH, midH, newH]), ?_, (by simp [madeH, midH, newH]), (by simp [madeH, midH, newH]), (by simp [madeH, midH, newH]), (by simp [madeH, midH, newH]), (by simp [madeH, midH, newH]), (by simp [madeH, midH, newH]), hext, hnm, hcm, (by simp [madeH, midH, newH])⟩
        show 0 ≤ flagB non name comment + (if slash name = true then 0 else 8) ∧ flagB non name comment + (if slash name = true then 0 else 8) ≤ 65535
        split <;> omega
      have hfld : slash name = false → (bits .and .u16 h.flags 8 != 0) = true := fun hs => by
        rw [hh]
        show (bits .and .u16 (flagB non name comment + (if slash name = true then 0 else 8)) 8 != 0) = true
        rw [hs]
        unfold flagB
        split <;> decide
      have hnme : h.name = name := by rw [hh]; rfl
      have hloc : ({ h with crc := 0, packed := 0, size := 0 } : H) = h := by rw [hh]; rfl
      rw [← hh] at bfx
      have ZX : ZwK x O z (pcsL ps) ob db lw es lv false [] := Z8.out.fr fx (fun b hb e => nfh (e ▸ (hb.imp id (fun k => k.imp id .inl)))) (fun k hk => by
        have h1 := HI.out.2.2.1 k hk
        exact ⟨by omega, by omega, fun d hd => by have := h1.2.2 d hd; omega⟩)
      have BHX : Blk x hb #[.pointer (some ⟨fh, 0, none⟩), .int .u64 (pcsL ps).length, .bool false] 153 := fx.blk BH8.out (by omega)
      have EE : EntOk x O ob z db lw ⟨hb, fh, (pcsL ps).length, false, h, non, .int .u64 0, .int .i64 0, .pointer none, .slice none 0 0, 0, 0⟩ := by
        have hnb : ¬ Zall O ob z db lw hb := fun k => Nat.lt_irrefl _ (zlt hb k)
        exact ⟨⟨BHX, bfx, .inl ⟨rfl, by rw [hh]; rfl⟩, fun k => hnb (.inl k), fun k => nfh (.inl k), (fun d hd => by cases hd), HOKH⟩, hnb, nfh, fun d hd => (by cases hd), (by show hb ≠ fh; omega)⟩
      have HEE := Lib.hid EE
      have HZX := Lib.hid ZX
      have HFX := Lib.hid (And.intro fx (And.intro hck hsl))
      have HH := Lib.hid (And.intro HOKH (And.intro hfld (And.intro hnme hloc)))
      obtain ⟨dv, hzb, hown, hdb⟩ := ZX.zb
      obtain ⟨vx, vcap, rfl⟩ := own_form hown
      have hcnt0 := ZX.cnt
      have p1 : x.cell? ⟨z, 1, none⟩ = some (.slice vx es.length vcap) := hzb.cell 1
      have fz : ∀ o, (x.alloc o).frozen? ⟨z, 1, none⟩ = false := fun o => (hzb.alloc o).frozen 1
      have hO3 : O.base ≤ x.heap.size := ZX.base.1
      have hzl : z < x.heap.size := hzb.lt
      have HO3 := Lib.hid hown
      have HDB := Lib.hid hdb
      have HHH := Lib.hid hh
      have SZ := Lib.hid (And.intro hw0 (And.intro hfn (And.intro hfl (And.intro hs1 (And.intro hs8 (And.intro hs8' (And.intro hsx zlt)))))))
      clear hX hsl bfx fx hck HOKH hfld hnme hloc ZX BHX EE hzb hown hdb hw0 hfn hfl hs1 hs8 hs8' hsx zlt hh B8 BH8 Z8
      go_wp2_with (at_builtin; refine wpList_app_ptr rfl _ _ rfl O.base (.slice vx es.length vcap) es.length (es.map Ent.ptr) rfl (HO3.out.alloc _) x.heap.size (.pointer (some ⟨hb, 0, none⟩)) rfl ((Blk.new _ _ _).cell 0) ?c1 ?c2 ?c3 ?_)
      case c1 => rfl
      case c2 => exact hcnt0
      case c3 => rw [World.size_alloc]; omega
      intro v' w4 own' fr4 at'
      obtain ⟨vy, vcap', rfl⟩ := own_form own'
      have F34 : Fr (fun b => some b = db) x w4 := ((Fr.refl (fun b => some b = db) x).alloc (.cells #[.pointer (some ⟨hb, 0, none⟩)] 151)).trans2 fr4 (fun _ h => h) (fun b e => by rw [HDB.out] at e; exact e)
      have hat : (Value.slice vy (es.length + 1) vcap').ownBlock = db ∨ ∃ g, (Value.slice vy (es.length + 1) vcap').ownBlock = some g ∧ x.heap.size ≤ g := by
        rcases at' with e | e
        · exact .inl (e.trans HDB.out)
        · exact .inr ⟨_, e, by simp⟩
      have fz4 : w4.frozen? ⟨z, 1, none⟩ = false := by
        obtain ⟨dv, hzb, _⟩ := HZX.out.zb
        exact (F34.blk hzb (fun e => HZX.out.z1.2.1 e)).frozen 1
      have cz4 : w4.cell? ⟨z, 1, none⟩ = some (.slice vx es.length vcap) := (F34.cell hzl HZX.out.z1.2.1).trans p1
      have HOWN := Lib.hid own'
      have HF34 := Lib.hid F34
      have HAT := Lib.hid hat
      clear own' fr4 at' F34 hat p1 fz HO3
      go_upto_region 46 with fail
      obtain ⟨Z5, F5, A5⟩ := HZX.out.add _ HEE.out _ HF34.out HOWN.out HAT.out (by rw [HI.out.1.len]; exact hcnt)
      clear fz4 cz4 HOWN HF34 HDB
      generalize (Value.slice vy (es.length + 1) vcap').ownBlock = db5 at Z5 F5 A5 HAT
      generalize w4.setCell ⟨z, 1, none⟩ (.slice vy (es.length + 1) vcap') = w5 at Z5 F5 ⊢
      have HZ5 := Lib.hid Z5
      have HF5 := Lib.hid F5
      have HA5 := Lib.hid A5
      have hE5 := Z5.ent _ (List.mem_append_right _ (List.mem_singleton.2 rfl))
      have HWH := Lib.hid (writeHeaderD_any O Z5.ok (pcsL ps) ob hb fh (pcsL ps).length h non (.int .u64 0) (.int .i64 0) (.pointer none) (.slice none 0 0) 0 0 w5 Z5.out hE5.hd (by omega) Z5.base.1)
      rw [HH.out.2.2.2] at HWH
      have k0 : w5.cell? ⟨z, 0, none⟩ = some (.pointer (some ⟨O.cw, 0, none⟩)) := by obtain ⟨dv, hzb, _⟩ := Z5.zb; exact hzb.cell 0
      clear Z5 F5 A5 hE5
      go_upto_region 49 with (go_at_call 79; refine HWH.out.mono ?_; rintro e w6 ⟨rfl, ob6, h6⟩)
      have Z6 := HZ5.out.wrote h6.out.1 h6.out.2.1 h6.out.2.2
      have f2 : w6.frozen? ⟨z, 2, none⟩ = false := by obtain ⟨dv, hzb, _⟩ := Z6.zb; exact hzb.frozen 2
      have k2 : w6.cell? ⟨z, 2, none⟩ = some lv := by obtain ⟨dv, hzb, _⟩ := Z6.zb; exact hzb.cell 2
      obtain ⟨s1, s2, s3, s4, s5, s6, s7, zlt⟩ := SZ.out
      have s8 := HF5.out.size
      have s9 := h6.out.2.2.size
      -- what stands in the window is no block of the Writer's
      have NW : ∀ b, hb + 1 ≤ b → b < x.heap.size → ¬ Zall O ob6 z db5 lw b := fun b h1 h2 k => by
        have := zlt b (HA5.out b h2 (zall_back h6.out.2.1 b (by omega) k))
        omega
      have hcl : ∀ l, lw' = some l → ∃ rc np cc ch, Ckw x O l hb rc np cc ch (hb + 1) [] false ∧ rc < x.heap.size := HFX.out.2.1
      have hll : ∀ l, lw' = some l → hb + 1 ≤ l ∧ l < x.heap.size := fun l e => by
        obtain ⟨rc, np, cc, ch, hk, hr⟩ := hcl l e
        obtain ⟨o1, o2, o3, o4, o5, o6, o7, o8⟩ := hk.od
        omega
      have Z7 := Z6.setLast lw' (lvOf lw') (fun l e => by
        obtain ⟨h1, h2⟩ := hll l e
        have hn := NW l h1 h2
        exact ⟨fun e2 => hn (.inr (.inl e2)), fun e2 => hn (.inr (.inr (.inl e2))), fun e2 => hn (.inl e2), by omega⟩) (fun k hk => by
        have key : ∀ b, b ≤ hb → some b ≠ lw' := fun b h1 e2 => by
          have := (hll b e2.symm).1
          omega
        rcases List.mem_append.1 hk with hk | hk
        · have h1 := HI.out.2.2.1 k hk
          exact ⟨key _ (by omega), key _ (by omega), fun d hd => key _ (by have := h1.2.2 d hd; omega)⟩
        · cases List.mem_singleton.1 hk
          exact ⟨key _ (Nat.le_refl _), key _ (by show fh ≤ hb; omega), fun d hd => by cases hd⟩)
      have FXW : Fr (fun b => Zall O ob z db lw b) x w6 := HF5.out.trans2 h6.out.2.2 (fun b e => e.elim (fun e => .inr (.inr (.inl e))) (fun e => .inr (.inl e))) (fun b e => .inl e)
      have FXE : Fr (fun b => Zall O ob z db lw b) x (w6.setCell ⟨z, 2, none⟩ (lvOf lw')) := FXW.setCell (fun _ => .inr (.inl rfl)) _
      have hC0z := HZ.out.2.1
      have LO : ∀ b, Zall O ob6 z db5 lw' b → C0 ≤ b := fun b hb2 => by
        have hz0 := HZ.out.1
        by_cases hl : b < x.heap.size
        · by_cases hl2 : some b = lw'
          · have := (hll b hl2.symm).1; omega
          · have h3 : Zall O ob6 z db5 lw b := hb2.imp id (fun k => k.imp id (fun k => k.imp id (fun k => absurd k hl2)))
            exact Z1.out.lo.2 b (HA5.out b hl (zall_back h6.out.2.1 b (by omega) h3))
        · omega
      have BEL : Fr (fun b => (C0 ≤ b ∧ b < w0.heap.size) ∨ b = fh) w (w6.setCell ⟨z, 2, none⟩ (lvOf lw')) := by
        have FW1 : Fr (fun b => (C0 ≤ b ∧ b < w0.heap.size) ∨ b = fh) w w1 := F1.out.mono (fun b _ e => .inl (HI.out.2.1 b e))
        have FW8 : Fr (fun b => (C0 ≤ b ∧ b < w0.heap.size) ∨ b = fh) w w8 := FW1.trans F18.out (fun b _ e => .inr e)
        have FWX : Fr (fun b => (C0 ≤ b ∧ b < w0.heap.size) ∨ b = fh) w x := FW8.trans HFX.out.1 (fun b _ e => .inr e)
        exact FWX.trans FXE (fun b hb e => .inl ⟨Z1.out.lo.2 b e, NZ.out b hb e⟩)
      have FIN : Hid (MadeS C0 (w6.setCell ⟨z, 2, none⟩ (lvOf lw')) O z ps (madeH name comment non ext) lw' ∧ Fr (fun b => (C0 ≤ b ∧ b < w0.heap.size) ∨ b = fh) w (w6.setCell ⟨z, 2, none⟩ (lvOf lw'))) := Lib.hid ⟨by
        rw [← HHH.out]
        refine ⟨fun e => ?_, fun l e => ?_⟩
        · have hs := HFX.out.2.2.2 e
          subst e
          refine ⟨by rw [HH.out.2.2.1]; exact hs, .shut _ ob6 db5 (es ++ [⟨hb, fh, (pcsL ps).length, false, h, non, .int .u64 0, .int .i64 0, .pointer none, .slice none 0 0, 0, 0⟩]) ⟨?_, HI.out.1.snoc _ _ rfl rfl, Z1.out.lo.1, LO⟩⟩
          have e1 : pcsL (ps ++ [rawP h []]) = pcsL ps ++ localL h := by simp [Pc.text, pcsL]
          rw [e1]
          exact Z7
        · have hs : slash name = false := by
            cases hq : slash name with
            | false => rfl
            | true => have := HFX.out.2.2.1 hq; rw [e] at this; cases this
          obtain ⟨rc, np, cc, ch, hk, hr⟩ := hcl l e
          obtain ⟨g1, g2⟩ := hll l e
          subst e
          refine ⟨by rw [HH.out.2.2.1]; exact hs, ob6, db5, rc, np, cc, ch, hb + 1, es, ⟨hb, fh, (pcsL ps).length, false, h, non, .int .u64 0, .int .i64 0, .pointer none, .slice none 0 0, 0, 0⟩, rfl, ⟨?_, ?_, rfl, HH.out.2.1 hs, HI.out.1, rfl, ?_, ?_, ?_, ?_, ?_, ?_, ?_⟩⟩
          · rw [List.append_nil]; exact Z7
          · exact hk.fr FXE (fun b hb2 e2 => by have := zlt b e2; have := hb2.1; omega)
          · intro b hb2
            have hn := NW b hb2.1 (by have := hb2.2; omega)
            exact ⟨fun e2 => hn (.inl e2), fun e2 => hn (.inr (.inl e2)), fun e2 => hn (.inr (.inr (.inl e2)))⟩
          · have := FXE.size
            omega
          · intro k hk2
            rcases List.mem_append.1 hk2 with hk2 | hk2
            · have h1 := HI.out.2.2.1 k hk2
              exact ⟨by omega, by omega, fun d hd => by have := h1.2.2 d hd; omega⟩
            · cases List.mem_singleton.1 hk2
              exact ⟨by show hb < hb + 1; omega, by show fh < hb + 1; omega, fun d hd => by cases hd⟩
          · intro k hk2
            have h1 := HI.out.2.2.1 k hk2
            exact ⟨by show k.hb ≠ fh; omega, by show k.fh ≠ fh; omega, fun d hd => by have := h1.2.2 d hd; show d ≠ fh; omega⟩
          · intro d hd
            cases hd
          · exact ⟨Z1.out.lo.1, by have := HZ.out.1; omega, by have := HZ.out.1; show C0 ≤ fh; omega, LO⟩
          · intro _
            have h0 := HH.out.1
            exact ⟨h0.creator, h0.reader, h0.flags, h0.method, h0.time, h0.date, ⟨by show (0 : Int) ≤ ((Zip.crc [] : Nat) : Int); omega, by have := crc_lt []; show ((Zip.crc [] : Nat) : Int) ≤ 4294967295; omega⟩, ⟨by show (0 : Int) ≤ (([] : List UInt8).length : Int); simp, by show (([] : List UInt8).length : Int) ≤ 4294967294; simp⟩, ⟨by show (0 : Int) ≤ (([] : List UInt8).length : Int); simp, by show (([] : List UInt8).length : Int) ≤ 4294967294; simp⟩, h0.ext, h0.name, h0.comment, h0.extra⟩, BEL⟩
      clear Z6 Z7 FXW FXE LO BEL NW h6 HWH HZ5 HF5 HA5 HAT SZ zlt hcl hll k0
      cases lw' with
      | none =>
        dsimp only [lvOf, rawOut]
        go_wp2_with fail
        go_ret2
        exact ⟨none, rfl, FIN⟩
      | some l =>
        dsimp only [lvOf, rawOut]
        go_wp2_with fail
        go_ret2
        exact ⟨some l, rfl, FIN⟩
end Go.Proofs.Zip
