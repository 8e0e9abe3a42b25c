/- A part of a proof over the given program: FrN, HdB, De. Nothing is assumed here. -/
import Derived.Test.YtidmhfhfcoljeaaGreatDoorZJ
import Derived.Test.YtidmhfhfcoljeaaGreatDoorZF
import Derived.Deep.DeepCutAuto
import Derived.Deep.CutBlock
namespace Go.Proofs.Zip
open Go Go.RowKit
set_option maxRecDepth 100000 in
/-- A frame of 211 slots, written out. -/
theorem frame211 (a : Act) (hs : a.tmps.size = 211) (hd : a.defers = []) : ∃ u : Nat → Value, a = ⟨#[u 0, u 1, u 2, u 3, u 4, u 5, u 6, u 7, u 8, u 9, u 10, u 11, u 12, u 13, u 14, u 15, u 16, u 17, u 18, u 19, u 20, u 21, u 22, u 23, u 24, u 25, u 26, u 27, u 28, u 29, u 30, u 31, u 32, u 33, u 34, u 35, u 36, u 37, u 38, u 39, u 40, u 41, u 42, u 43, u 44, u 45, u 46, u 47, u 48, u 49, u 50, u 51, u 52, u 53, u 54, u 55, u 56, u 57, u 58, u 59, u 60, u 61, u 62, u 63, u 64, u 65, u 66, u 67, u 68, u 69, u 70, u 71, u 72, u 73, u 74, u 75, u 76, u 77, u 78, u 79, u 80, u 81, u 82, u 83, u 84, u 85, u 86, u 87, u 88, u 89, u 90, u 91, u 92, u 93, u 94, u 95, u 96, u 97, u 98, u 99, u 100, u 101, u 102, u 103, u 104, u 105, u 106, u 107, u 108, u 109, u 110, u 111, u 112, u 113, u 114, u 115, u 116, u 117, u 118, u 119, u 120, u 121, u 122, u 123, u 124, u 125, u 126, u 127, u 128, u 129, u 130, u 131, u 132, u 133, u 134, u 135, u 136, u 137, u 138, u 139, u 140, u 141, u 142, u 143, u 144, u 145, u 146, u 147, u 148, u 149, u 150, u 151, u 152, u 153, u 154, u 155, u 156, u 157, u 158, u 159, u 160, u 161, u 162, u 163, u 164, u 165, u 166, u 167, u 168, u 169, u 170, u 171, u 172, u 173, u 174, u 175, u 176, u 177, u 178, u 179, u 180, u 181, u 182, u 183, u 184, u 185, u 186, u 187, u 188, u 189, u 190, u 191, u 192, u 193, u 194, u 195, u 196, u 197, u 198, u 199, u 200, u 201, u 202, u 203, u 204, u 205, u 206, u 207, u 208, u 209, u 210], []⟩ := by
  obtain ⟨t, d⟩ := a
  simp only at hs hd
  subst hd
  refine ⟨fun i => t.toList.getD i undef, ?_⟩
  have h := list_tab undef t.toList
  have hl : t.toList.length = 211 := by simpa using hs
  rw [hl] at h
  have e : t = (List.map (fun i => t.toList.getD i undef) (List.range 211)).toArray := by
    apply Array.toList_inj.1
    rw [← h]
  generalize (fun i => t.toList.getD i undef) = u at e ⊢
  rw [e]; rfl
set_option maxRecDepth 100000 in
/-- A frame of 145 slots, written out. -/
theorem frame145 (a : Act) (hs : a.tmps.size = 145) (hd : a.defers = []) : ∃ u : Nat → Value, a = ⟨#[u 0, u 1, u 2, u 3, u 4, u 5, u 6, u 7, u 8, u 9, u 10, u 11, u 12, u 13, u 14, u 15, u 16, u 17, u 18, u 19, u 20, u 21, u 22, u 23, u 24, u 25, u 26, u 27, u 28, u 29, u 30, u 31, u 32, u 33, u 34, u 35, u 36, u 37, u 38, u 39, u 40, u 41, u 42, u 43, u 44, u 45, u 46, u 47, u 48, u 49, u 50, u 51, u 52, u 53, u 54, u 55, u 56, u 57, u 58, u 59, u 60, u 61, u 62, u 63, u 64, u 65, u 66, u 67, u 68, u 69, u 70, u 71, u 72, u 73, u 74, u 75, u 76, u 77, u 78, u 79, u 80, u 81, u 82, u 83, u 84, u 85, u 86, u 87, u 88, u 89, u 90, u 91, u 92, u 93, u 94, u 95, u 96, u 97, u 98, u 99, u 100, u 101, u 102, u 103, u 104, u 105, u 106, u 107, u 108, u 109, u 110, u 111, u 112, u 113, u 114, u 115, u 116, u 117, u 118, u 119, u 120, u 121, u 122, u 123, u 124, u 125, u 126, u 127, u 128, u 129, u 130, u 131, u 132, u 133, u 134, u 135, u 136, u 137, u 138, u 139, u 140, u 141, u 142, u 143, u 144], []⟩ := by
  obtain ⟨t, d⟩ := a
  simp only at hs hd
  subst hd
  refine ⟨fun i => t.toList.getD i undef, ?_⟩
  have h := list_tab undef t.toList
  have hl : t.toList.length = 145 := by simpa using hs
  rw [hl] at h
  have e : t = (List.map (fun i => t.toList.getD i undef) (List.range 145)).toArray := by
    apply Array.toList_inj.1
    rw [← h]
  generalize (fun i => t.toList.getD i undef) = u at e ⊢
  rw [e]; rfl
set_option maxRecDepth 100000 in
/-- A frame of 141 slots, written out. -/
theorem frame141 (a : Act) (hs : a.tmps.size = 141) (hd : a.defers = []) : ∃ u : Nat → Value, a = ⟨#[u 0, u 1, u 2, u 3, u 4, u 5, u 6, u 7, u 8, u 9, u 10, u 11, u 12, u 13, u 14, u 15, u 16, u 17, u 18, u 19, u 20, u 21, u 22, u 23, u 24, u 25, u 26, u 27, u 28, u 29, u 30, u 31, u 32, u 33, u 34, u 35, u 36, u 37, u 38, u 39, u 40, u 41, u 42, u 43, u 44, u 45, u 46, u 47, u 48, u 49, u 50, u 51, u 52, u 53, u 54, u 55, u 56, u 57, u 58, u 59, u 60, u 61, u 62, u 63, u 64, u 65, u 66, u 67, u 68, u 69, u 70, u 71, u 72, u 73, u 74, u 75, u 76, u 77, u 78, u 79, u 80, u 81, u 82, u 83, u 84, u 85, u 86, u 87, u 88, u 89, u 90, u 91, u 92, u 93, u 94, u 95, u 96, u 97, u 98, u 99, u 100, u 101, u 102, u 103, u 104, u 105, u 106, u 107, u 108, u 109, u 110, u 111, u 112, u 113, u 114, u 115, u 116, u 117, u 118, u 119, u 120, u 121, u 122, u 123, u 124, u 125, u 126, u 127, u 128, u 129, u 130, u 131, u 132, u 133, u 134, u 135, u 136, u 137, u 138, u 139, u 140], []⟩ := by
  obtain ⟨t, d⟩ := a
  simp only at hs hd
  subst hd
  refine ⟨fun i => t.toList.getD i undef, ?_⟩
  have h := list_tab undef t.toList
  have hl : t.toList.length = 141 := by simpa using hs
  rw [hl] at h
  have e : t = (List.map (fun i => t.toList.getD i undef) (List.range 141)).toArray := by
    apply Array.toList_inj.1
    rw [← h]
  generalize (fun i => t.toList.getD i undef) = u at e ⊢
  rw [e]; rfl
set_option maxRecDepth 100000 in
/-- A frame of 100 slots, written out. -/
theorem frame100 (a : Act) (hs : a.tmps.size = 100) (hd : a.defers = []) : ∃ u : Nat → Value, a = ⟨#[u 0, u 1, u 2, u 3, u 4, u 5, u 6, u 7, u 8, u 9, u 10, u 11, u 12, u 13, u 14, u 15, u 16, u 17, u 18, u 19, u 20, u 21, u 22, u 23, u 24, u 25, u 26, u 27, u 28, u 29, u 30, u 31, u 32, u 33, u 34, u 35, u 36, u 37, u 38, u 39, u 40, u 41, u 42, u 43, u 44, u 45, u 46, u 47, u 48, u 49, u 50, u 51, u 52, u 53, u 54, u 55, u 56, u 57, u 58, u 59, u 60, u 61, u 62, u 63, u 64, u 65, u 66, u 67, u 68, u 69, u 70, u 71, u 72, u 73, u 74, u 75, u 76, u 77, u 78, u 79, u 80, u 81, u 82, u 83, u 84, u 85, u 86, u 87, u 88, u 89, u 90, u 91, u 92, u 93, u 94, u 95, u 96, u 97, u 98, u 99], []⟩ := by
  obtain ⟨t, d⟩ := a
  simp only at hs hd
  subst hd
  refine ⟨fun i => t.toList.getD i undef, ?_⟩
  have h := list_tab undef t.toList
  have hl : t.toList.length = 100 := by simpa using hs
  rw [hl] at h
  have e : t = (List.map (fun i => t.toList.getD i undef) (List.range 100)).toArray := by
    apply Array.toList_inj.1
    rw [← h]
  generalize (fun i => t.toList.getD i undef) = u at e ⊢
  rw [e]; rfl
end Go.Proofs.Zip
namespace Go.Proofs.Zip
open Go Go.RowKit
/-- What a header that is none tells. -/
def stopErr (E : Errs) (l : List UInt8) : Value := if 46 ≤ l.length then errv E.fmt else if l = [] then errv E.eof else errv E.unx
def Stops (l : List UInt8) : Prop := 46 ≤ l.length → n4 (l.take 46) 0 ≠ 33639248
set_option maxRecDepth 100000 in
set_option maxHeartbeats 1000000 in
/-- The walk of a header that is none, whatever it is read by. -/
theorem header_stop_core (E : Errs) (N0 f : Nat) (rv : Value) (l : List UInt8) (S : Nat → Prop) (w : World) (hE : Env w N0 E) (hS : ∀ b, S b → N0 ≤ b) (_hS2 : ∀ b, S b → b < w.heap.size) (hst : Stops l)
    (HC0 : ∀ cs : Array Value, cs.size = 46 → Calls Tryz.prog 115 #[rv, .slice (some ⟨w.heap.size, 0, none⟩) 46 46] (w.alloc (.cells cs 203)) fun e w' => e = .returned (.tuple #[.int .i64 (l.take 46).length, fullErr 46 l E.eof E.unx]) ∧
      Blk w' w.heap.size (put cs 0 (l.take 46)) 203 ∧ Fr (fun b => b = w.heap.size ∨ S b) (w.alloc (.cells cs 203)) w') :
    Calls Tryz.prog 87 #[.pointer (some ⟨f, 0, none⟩), rv] w fun e w' => e = .returned (stopErr E l) ∧ Fr S w w' := by
  have HE := Lib.hid hE
  have HST := Lib.hid hst
  have HSS := Lib.hid hS
  have HCH := Lib.hid HC0
  have hNw := hE.le
  clear hE hst hS HC0
  go_enter Tryz.func87, Tryz.ntmps87
  go_wp2_with fail
  go_step3
  go_wp2_with (refine wpList_alloc_big rfl 203 rfl 46 (by kernel_rfl) ?_)
  intro cs hcs
  have HC := Lib.hid (HCH.out cs hcs)
  have hfr : Hid (∀ w', Fr (fun b => b = w.heap.size ∨ S b) (w.alloc (.cells cs 203)) w' → Fr S w w') := Lib.hid fun w' hf =>
    ((Fr.refl S w).alloc _).trans hf (fun i hi e => e.elim (fun e => absurd hi (by omega)) id)
  go_wp2_with fail
  by_cases h46 : 46 ≤ l.length
  · have hl : (l.take 46).length = 46 := by simp; omega
    have hp := put_all cs (l.take 46) (by omega)
    have hC1 := HC.out
    rw [hl, hp, fullErr, if_pos h46] at hC1
    have HC1 := Lib.hid hC1
    have hsg : ((n4 (l.take 46) 0 : Int) != 33639248) = true := by rw [bne_iff_ne]; have := HST.out h46; omega
    clear hC1 HC hp HCH
    refine HC1.out.mono ?_
    rintro e w1 ⟨rfl, hb1, hf1⟩
    have HB1 := Lib.hid hb1
    have HF1 := Lib.hid (hfr.out _ hf1)
    have hz1 := hb1.lt
    clear hb1 hf1 HC1
    go_wp2_with fail
    have R0 : RS (w1.alloc (.cells #[.slice (some ⟨w.heap.size, 0, none⟩) 46 46] 194)) w1.heap.size w.heap.size 0 (l.take 46) 203 := ⟨⟨_, by rw [hl]; exact Blk.new _ _ _, fun _ => rfl⟩, HB1.out.alloc _⟩
    refine (R0.u32 (by omega) (by omega)).mono ?_
    rintro e w2 ⟨rfl, -, hf2⟩
    have hf2' : Fr S w w2 := (HF1.out.alloc _).trans hf2 (fun i hi e => absurd hi (by have := HF1.out.size; omega))
    have cg : w2.cell? ⟨1, 0, none⟩ = some (errv E.fmt) := (HE.out.fr hf2' HSS.out).fmt.sen.cell
    have HF2 := Lib.hid hf2'
    clear R0 hf2 hf2'
    go_wp2
    rw [Exit.noGoto_ret]
    go_ret
    exact ⟨by rw [stopErr, if_pos h46]; rfl, HF2.out⟩
  · have hC1 := HC.out
    have hse : stopErr E l = fullErr 46 l E.eof E.unx := by rw [stopErr, fullErr, if_neg h46, if_neg h46]
    have HSE := Lib.hid hse
    clear hse
    rw [fullErr, if_neg h46] at hC1
    by_cases hn : l = []
    · rw [if_pos hn] at hC1
      have HC1 := Lib.hid hC1
      clear hC1 HC HCH
      refine HC1.out.mono ?_
      rintro e w1 ⟨rfl, hb1, hf1⟩
      have HF1 := Lib.hid (hfr.out _ hf1)
      clear hb1 hf1 HC1
      go_wp2
      rw [Exit.noGoto_ret]
      go_ret
      exact ⟨by rw [HSE.out, fullErr, if_neg h46, if_pos hn]; rfl, HF1.out⟩
    · rw [if_neg hn] at hC1
      have HC1 := Lib.hid hC1
      have HNN := Lib.hid hn
      clear hC1 HC HCH hn
      refine HC1.out.mono ?_
      rintro e w1 ⟨rfl, hb1, hf1⟩
      have HF1 := Lib.hid (hfr.out _ hf1)
      clear hb1 hf1 HC1
      go_wp2
      rw [Exit.noGoto_ret]
      go_ret
      exact ⟨by rw [HSE.out, fullErr, if_neg h46, if_neg HNN.out]; rfl, HF1.out⟩
theorem header_stop (R : Rdr) (E : Errs) (N0 f : Nat) (l : List UInt8) (w : World) (hR : R.Ok N0) (hE : Env w N0 E) (hrd : RB R E w l) (hst : Stops l) :
    Calls Tryz.prog 87 #[.pointer (some ⟨f, 0, none⟩), bufv R.bb] w fun e w' => e = .returned (stopErr E l) ∧ Fr R.has w w' := by
  refine header_stop_core E N0 f _ l R.has w hE hR.low (fun b hb => hrd.lt b (.inl hb)) hst fun cs hcs => ?_
  have hf0 : Fr (fun _ => False) w (w.alloc (.cells cs 203)) := (Fr.refl _ w).alloc _
  refine (rbFull_any R E N0 w.heap.size 46 46 l cs _ _ hR (hE.fr hf0 (fun _ h => h.elim)) (hrd.fr hf0 (fun _ _ h => h)) (Blk.new w cs _) (by omega) (Nat.le_refl _) (by omega) hE.le (fun hb => Nat.lt_irrefl _ (hrd.lt _ hb))).mono ?_
  rintro e w' ⟨h1, h2, h3, h4⟩
  exact ⟨h1, h2, h4⟩
theorem header_stopPt (s a N0 f lim : Nat) (base n : Int) (D l : List UInt8) (E : Errs) (w : World) (hE : Env w N0 E) (hrd : IsPt w s a base n D lim l) (hs : N0 ≤ s) (hsa : s ≠ a) (hlim : lim ≤ 4611686018427387904) (hD : D.length ≤ 4611686018427387904) (hst : Stops l) :
    Calls Tryz.prog 87 #[.pointer (some ⟨f, 0, none⟩), partv s] w fun e w' => e = .returned (stopErr E l) ∧ Fr (· = s) w w' := by
  obtain ⟨hsl, hal⟩ : s < w.heap.size ∧ a < w.heap.size := by obtain ⟨_, hp, ht, _⟩ := hrd; exact ⟨hp.lt, ht.lt⟩
  refine header_stop_core E N0 f _ l (· = s) w hE (fun b hb => hb ▸ hs) (fun b hb => hb ▸ hsl) hst fun cs hcs => ?_
  have hf0 : Fr (fun _ => False) w (w.alloc (.cells cs 203)) := (Fr.refl _ w).alloc _
  have hE' := hE.fr hf0 (fun _ h => h.elim)
  have e1 := hE.eof.lt0
  have hle := hE.le
  refine (readFullPt_any s a w.heap.size 46 46 lim base n D l cs _ E.eof E.unx _ (hrd.fr hf0 id id) (Blk.new w cs _) (by omega) N0 hE'.eof hE'.unx (by rintro b (e | e) <;> omega) (Nat.le_refl _) (by omega) hlim hD ⟨by omega, by omega, hsa, by omega⟩).mono ?_
  rintro e w' ⟨h1, h2, h3, h4⟩
  exact ⟨h1, h2, h4⟩
end Go.Proofs.Zip
namespace Go.Proofs.Zip
open Go Go.RowKit
theorem neq_same (e : Addr) (w : World) : (binOp .neq 56 (errv e) (errv e)).run Tryz.prog w = .ok (.bool false) w := by
  cases hi : Tryz.prog.info? 180 with
  | none => exact absurd hi (by have : (Tryz.prog.info? 180).isSome = true := by kernel_rfl
                                intro h; simp [h] at this)
  | some i =>
    cases hj : Tryz.prog.info? 182 with
    | none => exact absurd hj (by have : (Tryz.prog.info? 182).isSome = true := by kernel_rfl
                                  intro h; simp [h] at this)
    | some j =>
      have hc : (Tryz.prog.info? 180).map (·.comparable) = some true := by kernel_rfl
      rw [hi] at hc
      simp only [binOp]
      simp [Op.equal, Op.maxDepth, run_equalIn_iface_ptr_same w 9998 e Tryz.underlying56 Tryz.underlying180 hi (by simpa using hc) hj]
/-- What the end at p tells fits. -/
structure DEOk (D : List UInt8) (p base : Nat) : Prop where
  len : p + 22 + n2 D (p + 20) ≤ D.length
  recs : n2 D (p + 10) ≠ 65535
  dsz : n4 D (p + 12) ≠ 4294967295
  dof : n4 D (p + 16) ≠ 4294967295
  sum : n4 D (p + 12) + n4 D (p + 16) + base = p
  bad : base = 0 ∨ Stops (D.drop (n4 D (p + 16)))
/-- The cells of a directory's end. -/
abbrev endCells (a b c rec dsz dof cl : Nat) (s : List UInt8) : Array Value := #[.int .u32 a, .int .u32 b, .int .u64 c, .int .u64 rec, .int .u64 dsz, .int .u64 dof, .int .u16 cl, .string (B s)]
/-- What comes of looking for the directory's end. -/
def DEPost (D : List UInt8) (E : Errs) (base : Nat) (w : World) (res : Option (Nat × Nat)) (e : Ending) (w' : World) : Prop :=
  match res with
  | none => e = .returned (.tuple #[.pointer none, .int .i64 0, errv E.fmt]) ∧ Below w.heap.size w w'
  | some (b, k) => ∃ q x y z, e = .returned (.tuple #[.pointer (some ⟨q, 0, none⟩), .int .i64 base, .nilIface]) ∧ w.heap.size ≤ q ∧
      Blk w' q (endCells x y z (n2 D (D.length - b + k + 10)) (n4 D (D.length - b + k + 12)) (n4 D (D.length - b + k + 16)) (n2 D (D.length - b + k + 20)) ((D.drop (D.length - b + k + 22)).take (n2 D (D.length - b + k + 20)))) 187 ∧ Below w.heap.size w w'
/-- The frame behind the search. -/
def RDE (w0 : World) (D : List UInt8) (a b k : Nat) (x : Act) (w : World) : Prop := x.tmps.size = 211 ∧ x.defers = [] ∧ x.tmps.getD 0 undef = textv a ∧ x.tmps.getD 1 undef = .int .i64 D.length ∧
  ∃ g, x.tmps.getD 7 undef = .slice (some ⟨g, k, none⟩) (b - k) (b - k) ∧ x.tmps.getD 8 undef = .int .i64 (D.length - b + k : Nat) ∧ w0.heap.size ≤ g ∧ Blk w g (u8s (D.drop (D.length - b))).toArray 5 ∧ Below w0.heap.size w0 w
/-- The loop's frame: n rounds are left. -/
def LpD (w0 : World) (D : List UInt8) (a : Nat) (n : Nat) (x : Act) (w : World) : Prop := (n = 2 ∨ n = 1 ∧ lastSig D (min 1024 D.length) = -1 ∧ 1024 < D.length) ∧ x.tmps.size = 211 ∧ x.defers = [] ∧ x.tmps.getD 0 undef = textv a ∧ x.tmps.getD 1 undef = .int .i64 D.length ∧
  x.tmps.getD 23 undef = .slice (some ⟨w0.heap.size, 0, none⟩) 2 2 ∧ x.tmps.getD 24 undef = .int .i64 2 ∧ x.tmps.getD 25 undef = .int .i64 (2 - n : Nat) ∧ Blk w w0.heap.size #[.int .i64 1024, .int .i64 66560] 2 ∧ Below w0.heap.size w0 w
theorem readTail_any (a g b : Nat) (cs : Array Value) (D : List UInt8) (E : Errs) (N0 : Nat) (w : World) (hE : Env w N0 E) (ha : IsText w a D) (hg : Blk w g cs 5) (hcs : cs.size = b) (hb : b ≤ D.length) (hb0 : b = 0 → D.length = 0) (hgN : N0 ≤ g) (hD : D.length ≤ 2305843009213693952) :
    ∃ r, (r = .nilIface ∨ r = errv E.eof ∧ b = 0 ∧ D.length = 0) ∧ Calls Tryz.prog 184 #[.pointer (some ⟨a, 0, none⟩), .slice (some ⟨g, 0, none⟩) b b, .int .i64 (D.length - b : Nat)] w fun e w' =>
      e = .returned (.tuple #[.int .i64 b, r]) ∧ Blk w' g (u8s (D.drop (D.length - b))).toArray 5 ∧ Fr (· = g) w w' := by
  have hne := hE.eof.lt0
  by_cases h0 : b = 0
  · by_cases hd : D.length = 0
    · refine ⟨errv E.eof, .inr ⟨rfl, h0, hd⟩, ?_⟩
      have e1 : ((D.length - b : Nat) : Int) = 0 := by omega
      rw [e1]
      refine (readAt_end a g 0 b b 0 D E.eof w ha (by omega) (by omega) hE.eof.sen).mono ?_
      rintro e w' ⟨rfl, rfl⟩
      refine ⟨by rw [h0]; rfl, ?_, (Fr.refl _ _).drew⟩
      have e2 : (u8s (D.drop (D.length - b))).toArray = cs := by
        have : cs = #[] := Array.size_eq_zero_iff.1 (by omega)
        rw [this, drop_nil_of_le (by omega)]; rfl
      rw [e2]; exact hg
    · exact absurd (hb0 h0) hd
  · refine ⟨.nilIface, .inl rfl, ?_⟩
    have hl : (D.drop (D.length - b)).length = b := by rw [List.length_drop]; omega
    refine (readAt_all a g 0 b b (D.length - b) D cs _ E.eof w ha hg (by omega) hE.eof.sen (by omega) (by omega) (by omega) (by omega) .nilIface (by rw [if_neg (by omega)])).mono ?_
    rintro e w' ⟨rfl, h1, h2⟩
    have e1 : (D.drop (D.length - b)).take b = D.drop (D.length - b) := List.take_of_length_le (by omega)
    rw [e1] at h1 ⊢
    rw [put_all cs _ (by omega)] at h1
    rw [hl]
    exact ⟨rfl, h1, h2⟩
theorem findSig_lt {l : List UInt8} {n k : Nat} (h : findSig l n = (k : Int)) : k < n := by
  induction n with
  | zero => simp [findSig] at h
  | succ n ih =>
    rw [findSig] at h
    split at h
    · split at h <;> omega
    · have := ih h; omega
theorem found1 {D : List UInt8} {res : Option (Nat × Nat)} (hf : Found D res) : (∃ k : Nat, lastSig D (min 1024 D.length) = k ∧ res = some (min 1024 D.length, k) ∧ k + 22 ≤ min 1024 D.length) ∨ (lastSig D (min 1024 D.length) = -1 ∧ (D.length ≤ 1024 → res = none)) := by
  cases hf with
  | first b k hb h => subst hb; exact .inl ⟨k, h, rfl, by have := findSig_lt h; omega⟩
  | second b b2 k hb h hlt hb2 h2 => subst hb; exact .inr ⟨h, fun hle => by omega⟩
  | no b b2 hb h hb2 h2 => subst hb; exact .inr ⟨h, fun _ => rfl⟩
theorem found2 {D : List UInt8} {res : Option (Nat × Nat)} (hf : Found D res) (hno : lastSig D (min 1024 D.length) = -1) (hlt : 1024 < D.length) : (∃ k : Nat, lastSig D (min 66560 D.length) = k ∧ res = some (min 66560 D.length, k) ∧ k + 22 ≤ min 66560 D.length) ∨ (lastSig D (min 66560 D.length) = -1 ∧ res = none) := by
  cases hf with
  | first b k hb h => subst hb; rw [hno] at h; omega
  | second b b2 k hb h hlt hb2 h2 => subst hb2; exact .inl ⟨k, h2, rfl, by have := findSig_lt h2; omega⟩
  | no b b2 hb h hb2 h2 => subst hb; subst hb2; exact .inr ⟨h2 (by omega), rfl⟩
theorem n2_drop (D : List UInt8) (s o : Nat) : n2 (D.drop s) o = n2 D (s + o) := by simp [n2, List.drop_drop]
theorem n4_drop (D : List UInt8) (s o : Nat) : n4 (D.drop s) o = n4 D (s + o) := by simp [n4, List.drop_drop]
set_option maxRecDepth 100000 in
set_option maxHeartbeats 8000000 in
theorem dirEnd_any (D : List UInt8) (E : Errs) (N0 a base : Nat) (res : Option (Nat × Nat)) (w : World) (hE : Env w N0 E) (ha : IsText w a D) (_haN : N0 ≤ a) (hD : D.length ≤ 2305843009213693952) (hf : Found D res) (hok : ∀ b k, res = some (b, k) → DEOk D (D.length - b + k) base) :
    Calls Tryz.prog 84 #[textv a, .int .i64 D.length] w (DEPost D E base w res) := by
  have HE := Lib.hid hE
  have HA := Lib.hid ha
  have HF := Lib.hid hf
  have HOK := Lib.hid hok
  clear hE ha hf hok
  go_enter Tryz.func84, Tryz.ntmps84
  go_upto_block 0 with fail
  refine wp_cut (fun x w' => ∃ b k, res = some (b, k) ∧ b ≤ D.length ∧ k + 22 ≤ b ∧ RDE w D a b k x w') ?rest ?first
  case first =>
    intro J K hJ hK
    go_wp2_with fail
    refine wp_loop_ghost_k (LpD w D a) 2 ?start ?round
    case start => exact ⟨.inl rfl, rfl, rfl, rfl, rfl, rfl, rfl, rfl, Blk.new _ _ _, (Below.refl _ _).alloc (Nat.le_refl _) _⟩
    case round =>
      intro n x wr hI J2 K2 hJ2 hK2
      obtain ⟨hn, q1, q2, q3, q4, q5, q6, q7, hs, hb⟩ := hI
      obtain ⟨u, rfl⟩ := frame211 x q1 q2
      have hu0 : u 0 = textv a := q3
      have hu1 : u 1 = .int .i64 D.length := q4
      have hu23 : u 23 = .slice (some ⟨w.heap.size, 0, none⟩) 2 2 := q5
      have hu24 : u 24 = .int .i64 2 := q6
      have hu25 : u 25 = .int .i64 (2 - n : Nat) := q7
      clear q1 q2 q3 q4 q5 q6 q7
      rw [hu0, hu1, hu23, hu24, hu25]
      clear hu0 hu1 hu23 hu24 hu25
      have c0 : wr.cell? ⟨w.heap.size, 0, none⟩ = some (.int .i64 1024) := hs.cell 0
      have c1 : wr.cell? ⟨w.heap.size, 1, none⟩ = some (.int .i64 66560) := hs.cell 1
      have hHS : Blk wr w.heap.size #[.int .i64 1024, .int .i64 66560] 2 := hs
      clear hHS
      have HS := Lib.hid hs
      have HB := Lib.hid hb
      clear hs hb
      rcases hn with rfl | ⟨rfl, hno, hlt⟩
      · by_cases hge : 1024 ≤ D.length
        · have hge' : ¬ (D.length : Int) < 1024 := by omega
          have hoff : (D.length : Int) - 1024 = ((D.length - 1024 : Nat) : Int) := by omega
          go_wp2_with (refine wpList_make_bytes rfl _ _ rfl 1024 rfl rfl (by omega) ?_)
          intro w2 cs hg hsz hbl hlt2
          have hA2 : IsText w2 a D := below_blk hbl (below_blk HB.out HA.out)
          have hE2 : Env w2 N0 E := (HE.out.below HB.out).below hbl
          have hgN : N0 ≤ wr.heap.size := Nat.le_trans HE.out.le HB.out.size
          obtain ⟨r, hr, HC⟩ := readTail_any a wr.heap.size 1024 cs D E N0 w2 hE2 hA2 hg hsz (by omega) (by omega) hgN hD
          have hb2 : Below w.heap.size w w2 := below_up HB.out hbl
          have HBL := Lib.hid hb2
          have HE2 := Lib.hid hE2
          have HS2 := Lib.hid (below_blk hbl HS.out)
          have HCC := Lib.hid HC
          have hneq := neq_same E.eof
          have ce2 : Hid (∀ w3, Fr (· = wr.heap.size) w2 w3 → w3.cell? ⟨5, 0, none⟩ = some (errv E.eof) ∧ w3.cell? ⟨1, 0, none⟩ = some (errv E.fmt)) := Lib.hid fun w3 hf => ⟨(hE2.fr hf (fun b e => e ▸ hgN)).eof.sen.cell, (hE2.fr hf (fun b e => e ▸ hgN)).fmt.sen.cell⟩
          have hna := fun n w => nilAhead_text n a w
          clear HC hg hA2 hE2 hb2 hbl c0 c1

          rcases hr with rfl | ⟨rfl, hz1, hz2⟩
          · go_wp2_with fail
            refine HCC.out.mono ?_
            rintro e w3 ⟨rfl, hg3, hf3⟩
            obtain ⟨ce, cf⟩ := ce2.out w3 hf3
            have hl : (D.drop (D.length - 1024)).length = 1024 := by rw [List.length_drop]; omega
            have hfs := findSig_any wr.heap.size 1024 (D.drop (D.length - 1024)) w3 (hg3.range (by rw [List.drop_zero]; exact List.take_of_length_le (Nat.le_refl _))) (by omega)
            rw [hl] at hfs
            have HFS := Lib.hid hfs
            have HF3 : Hid (Blk w3 wr.heap.size (u8s (D.drop (D.length - 1024))).toArray 5 ∧ Below w.heap.size w w3 ∧ Blk w3 w.heap.size #[.int .i64 1024, .int .i64 66560] 2) := Lib.hid ⟨hg3, HBL.out.trans (hf3.below HBL.out.size (fun i hi e => by have := HB.out.size; omega)), hf3.blk HS2.out (by have := HS.out.lt; omega)⟩
            clear hfs hg3 hf3 HCC ce2 hna HBL HS2 HE2
            go_wp2_with fail
            refine HFS.out.mono ?_
            rintro e w4 ⟨rfl, hf4⟩
            have HF4 : Hid (Blk w4 wr.heap.size (u8s (D.drop (D.length - 1024))).toArray 5 ∧ Below w.heap.size w w4 ∧ Blk w4 w.heap.size #[.int .i64 1024, .int .i64 66560] 2) := by
              obtain ⟨k1, k2, k3⟩ := HF3.out
              exact Lib.hid ⟨hf4.blk k1 id, k2.trans (hf4.below k2.size (fun _ _ h => h)), hf4.blk k3 id⟩
            have cf4 : w4.cell? ⟨1, 0, none⟩ = some (errv E.fmt) := by rw [hf4.cell (Nat.lt_of_lt_of_le (Nat.lt_of_lt_of_le HE.out.fmt.lt0 HE.out.le) HF3.out.2.1.size) id]; exact cf
            have hls : findSig (D.drop (D.length - 1024)) (1024 - 21) = lastSig D 1024 := rfl
            rw [hls]
            clear HFS HF3 ce cf hf4 hls hl
            have hfd := found1 HF.out
            rw [show min 1024 D.length = 1024 by omega] at hfd
            rcases hfd with ⟨k, hk, hres, hkb⟩ | ⟨hno, hnone⟩
            · rw [hk]
              have hk0 : ¬ 1024 = k := by omega
              have hk1 : (k : Int) ≤ 1024 := by omega
              have hkp : (0 : Int) ≤ k := by omega
              clear hk
              go_wp2
              exact Met.intro (hJ _ _ ⟨1024, k, hres, by omega, by omega, rfl, rfl, rfl, rfl, wr.heap.size, rfl, by simp, HB.out.size, HF4.out.1, HF4.out.2.1⟩)
            · rw [hno]
              by_cases heq : D.length = 1024
              · have heq' : ((1024 : Int) == D.length) = true := by rw [beq_iff_eq]; omega
                go_wp2
                go_region
                go_wp2
                go_ret3
                obtain rfl := hnone (by omega)
                exact ⟨rfl, HF4.out.2.1.drew⟩
              · have heq' : ((1024 : Int) == D.length) = false := by rw [beq_eq_false_iff_ne]; omega
                go_wp2
                exact Handed.intro 1 (by omega) (hJ2 _ _ _ ⟨.inr ⟨rfl, by rw [show min 1024 D.length = 1024 by omega]; exact hno, by omega⟩, rfl, rfl, rfl, rfl, rfl, rfl, rfl, HF4.out.2.2, HF4.out.2.1⟩)
          · omega
        · have hge' : (D.length : Int) < 1024 := by omega
          go_wp2_with (refine wpList_make_bytes rfl _ _ rfl D.length rfl rfl (by omega) ?_)
          intro w2 cs hg hsz hbl hlt2
          have hA2 : IsText w2 a D := below_blk hbl (below_blk HB.out HA.out)
          have hE2 : Env w2 N0 E := (HE.out.below HB.out).below hbl
          have hgN : N0 ≤ wr.heap.size := Nat.le_trans HE.out.le HB.out.size
          obtain ⟨r, hr, HC⟩ := readTail_any a wr.heap.size D.length cs D E N0 w2 hE2 hA2 hg hsz (by omega) (by omega) hgN hD
          have hb2 : Below w.heap.size w w2 := below_up HB.out hbl
          have HBL := Lib.hid hb2
          have HE2 := Lib.hid hE2
          have HS2 := Lib.hid (below_blk hbl HS.out)
          have HCC := Lib.hid HC
          have hneq := neq_same E.eof
          have ce2 : Hid (∀ w3, Fr (· = wr.heap.size) w2 w3 → w3.cell? ⟨5, 0, none⟩ = some (errv E.eof) ∧ w3.cell? ⟨1, 0, none⟩ = some (errv E.fmt)) := Lib.hid fun w3 hf => ⟨(hE2.fr hf (fun b e => e ▸ hgN)).eof.sen.cell, (hE2.fr hf (fun b e => e ▸ hgN)).fmt.sen.cell⟩
          have hna := fun n w => nilAhead_text n a w
          clear HC hg hA2 hE2 hb2 hbl c0 c1
          rw [show ((D.length - D.length : Nat) : Int) = 0 by rw [Nat.sub_self]; rfl] at HCC
          rcases hr with rfl | ⟨rfl, hz1, hz2⟩
          · go_wp2_with fail
            refine HCC.out.mono ?_
            rintro e w3 ⟨rfl, hg3, hf3⟩
            obtain ⟨ce, cf⟩ := ce2.out w3 hf3
            have hl : (D.drop (D.length - D.length)).length = D.length := by rw [List.length_drop]; omega
            have hfs := findSig_any wr.heap.size D.length (D.drop (D.length - D.length)) w3 (hg3.range (by rw [List.drop_zero]; exact List.take_of_length_le (Nat.le_refl _))) (by omega)
            rw [hl] at hfs
            have HFS := Lib.hid hfs
            have HF3 : Hid (Blk w3 wr.heap.size (u8s (D.drop (D.length - D.length))).toArray 5 ∧ Below w.heap.size w w3 ∧ Blk w3 w.heap.size #[.int .i64 1024, .int .i64 66560] 2) := Lib.hid ⟨hg3, HBL.out.trans (hf3.below HBL.out.size (fun i hi e => by have := HB.out.size; omega)), hf3.blk HS2.out (by have := HS.out.lt; omega)⟩
            clear hfs hg3 hf3 HCC ce2 hna HBL HS2 HE2
            go_wp2_with fail
            refine HFS.out.mono ?_
            rintro e w4 ⟨rfl, hf4⟩
            have HF4 : Hid (Blk w4 wr.heap.size (u8s (D.drop (D.length - D.length))).toArray 5 ∧ Below w.heap.size w w4 ∧ Blk w4 w.heap.size #[.int .i64 1024, .int .i64 66560] 2) := by
              obtain ⟨k1, k2, k3⟩ := HF3.out
              exact Lib.hid ⟨hf4.blk k1 id, k2.trans (hf4.below k2.size (fun _ _ h => h)), hf4.blk k3 id⟩
            have cf4 : w4.cell? ⟨1, 0, none⟩ = some (errv E.fmt) := by rw [hf4.cell (Nat.lt_of_lt_of_le (Nat.lt_of_lt_of_le HE.out.fmt.lt0 HE.out.le) HF3.out.2.1.size) id]; exact cf
            have hls : findSig (D.drop (D.length - D.length)) (D.length - 21) = lastSig D D.length := rfl
            rw [hls]
            clear HFS HF3 ce cf hf4 hls hl
            have hfd := found1 HF.out
            rw [show min 1024 D.length = D.length by omega] at hfd
            rcases hfd with ⟨k, hk, hres, hkb⟩ | ⟨hno, hnone⟩
            · rw [hk]
              have hk0 : ¬ D.length = k := by omega
              have hk1 : (k : Int) ≤ D.length := by omega
              have hkp : (0 : Int) ≤ k := by omega
              clear hk
              go_wp2
              exact Met.intro (hJ _ _ ⟨D.length, k, hres, by omega, by omega, rfl, rfl, rfl, rfl, wr.heap.size, rfl, by simp, HB.out.size, HF4.out.1, HF4.out.2.1⟩)
            · rw [hno]
              go_wp2
              go_region
              go_wp2
              go_ret3
              obtain rfl := hnone (by omega)
              exact ⟨rfl, HF4.out.2.1.drew⟩
          · have HZZ := Lib.hid hz1
            clear hz1 hz2
            go_wp2_with fail
            refine HCC.out.mono ?_
            rintro e w3 ⟨rfl, hg3, hf3⟩
            obtain ⟨ce, cf⟩ := ce2.out w3 hf3
            have hl : (D.drop (D.length - D.length)).length = D.length := by rw [List.length_drop]; omega
            have hfs := findSig_any wr.heap.size D.length (D.drop (D.length - D.length)) w3 (hg3.range (by rw [List.drop_zero]; exact List.take_of_length_le (Nat.le_refl _))) (by omega)
            rw [hl] at hfs
            have HFS := Lib.hid hfs
            have HF3 : Hid (Blk w3 wr.heap.size (u8s (D.drop (D.length - D.length))).toArray 5 ∧ Below w.heap.size w w3 ∧ Blk w3 w.heap.size #[.int .i64 1024, .int .i64 66560] 2) := Lib.hid ⟨hg3, HBL.out.trans (hf3.below HBL.out.size (fun i hi e => by have := HB.out.size; omega)), hf3.blk HS2.out (by have := HS.out.lt; omega)⟩
            clear hfs hg3 hf3 HCC ce2 hna HBL HS2 HE2
            go_wp2_with fail
            refine HFS.out.mono ?_
            rintro e w4 ⟨rfl, hf4⟩
            have HF4 : Hid (Blk w4 wr.heap.size (u8s (D.drop (D.length - D.length))).toArray 5 ∧ Below w.heap.size w w4 ∧ Blk w4 w.heap.size #[.int .i64 1024, .int .i64 66560] 2) := by
              obtain ⟨k1, k2, k3⟩ := HF3.out
              exact Lib.hid ⟨hf4.blk k1 id, k2.trans (hf4.below k2.size (fun _ _ h => h)), hf4.blk k3 id⟩
            have cf4 : w4.cell? ⟨1, 0, none⟩ = some (errv E.fmt) := by rw [hf4.cell (Nat.lt_of_lt_of_le (Nat.lt_of_lt_of_le HE.out.fmt.lt0 HE.out.le) HF3.out.2.1.size) id]; exact cf
            have hls : findSig (D.drop (D.length - D.length)) (D.length - 21) = lastSig D D.length := rfl
            rw [hls]
            clear HFS HF3 ce cf hf4 hls hl
            have hfd := found1 HF.out
            rw [show min 1024 D.length = D.length by omega] at hfd
            rcases hfd with ⟨k, hk, hres, hkb⟩ | ⟨hno, hnone⟩
            · rw [hk]
              have hk0 : ¬ D.length = k := by omega
              have hk1 : (k : Int) ≤ D.length := by omega
              have hkp : (0 : Int) ≤ k := by omega
              clear hk
              go_wp2
              exact Met.intro (hJ _ _ ⟨D.length, k, hres, by omega, by omega, rfl, rfl, rfl, rfl, wr.heap.size, rfl, by simp, HB.out.size, HF4.out.1, HF4.out.2.1⟩)
            · rw [hno]
              go_wp2
              go_region
              go_wp2
              go_ret3
              obtain rfl := hnone (by omega)
              exact ⟨rfl, HF4.out.2.1.drew⟩
      · obtain ⟨M, hM⟩ : ∃ M : Nat, M = 66560 := ⟨_, rfl⟩
        have hM' : (66560 : Int) = (M : Int) := by omega
        rw [hM'] at c1
        have hf2 := found2 HF.out hno hlt
        rw [← hM] at hf2
        have HF2 := Lib.hid hf2
        have hM1 : 65536 < M ∧ M ≤ 70000 := by omega
        clear hM hM' hf2
        by_cases hge : M ≤ D.length
        · have hge' : ¬ (D.length : Int) < M := by omega
          have hoff : (D.length : Int) - M = ((D.length - M : Nat) : Int) := by omega
          go_wp2_with (refine wpList_make_bytes rfl _ _ rfl M rfl rfl (by omega) ?_)
          intro w2 cs hg hsz hbl hlt2
          have hA2 : IsText w2 a D := below_blk hbl (below_blk HB.out HA.out)
          have hE2 : Env w2 N0 E := (HE.out.below HB.out).below hbl
          have hgN : N0 ≤ wr.heap.size := Nat.le_trans HE.out.le HB.out.size
          obtain ⟨r, hr, HC⟩ := readTail_any a wr.heap.size M cs D E N0 w2 hE2 hA2 hg hsz (by omega) (by omega) hgN hD
          have hb2 : Below w.heap.size w w2 := below_up HB.out hbl
          have HBL := Lib.hid hb2
          have HE2 := Lib.hid hE2
          have HS2 := Lib.hid (below_blk hbl HS.out)
          have HCC := Lib.hid HC
          have hneq := neq_same E.eof
          have ce2 : Hid (∀ w3, Fr (· = wr.heap.size) w2 w3 → w3.cell? ⟨5, 0, none⟩ = some (errv E.eof) ∧ w3.cell? ⟨1, 0, none⟩ = some (errv E.fmt)) := Lib.hid fun w3 hf => ⟨(hE2.fr hf (fun b e => e ▸ hgN)).eof.sen.cell, (hE2.fr hf (fun b e => e ▸ hgN)).fmt.sen.cell⟩
          have hna := fun n w => nilAhead_text n a w
          clear HC hg hA2 hE2 hb2 hbl c0 c1

          rcases hr with rfl | ⟨rfl, hz1, hz2⟩
          · go_wp2_with fail
            refine HCC.out.mono ?_
            rintro e w3 ⟨rfl, hg3, hf3⟩
            obtain ⟨ce, cf⟩ := ce2.out w3 hf3
            have hl : (D.drop (D.length - M)).length = M := by rw [List.length_drop]; omega
            have hfs := findSig_any wr.heap.size M (D.drop (D.length - M)) w3 (hg3.range (by rw [List.drop_zero]; exact List.take_of_length_le (Nat.le_refl _))) (by omega)
            rw [hl] at hfs
            have HFS := Lib.hid hfs
            have HF3 : Hid (Blk w3 wr.heap.size (u8s (D.drop (D.length - M))).toArray 5 ∧ Below w.heap.size w w3 ∧ Blk w3 w.heap.size #[.int .i64 1024, .int .i64 66560] 2) := Lib.hid ⟨hg3, HBL.out.trans (hf3.below HBL.out.size (fun i hi e => by have := HB.out.size; omega)), hf3.blk HS2.out (by have := HS.out.lt; omega)⟩
            clear hfs hg3 hf3 HCC ce2 hna HBL HS2 HE2
            go_wp2_with fail
            refine HFS.out.mono ?_
            rintro e w4 ⟨rfl, hf4⟩
            have HF4 : Hid (Blk w4 wr.heap.size (u8s (D.drop (D.length - M))).toArray 5 ∧ Below w.heap.size w w4 ∧ Blk w4 w.heap.size #[.int .i64 1024, .int .i64 66560] 2) := by
              obtain ⟨k1, k2, k3⟩ := HF3.out
              exact Lib.hid ⟨hf4.blk k1 id, k2.trans (hf4.below k2.size (fun _ _ h => h)), hf4.blk k3 id⟩
            have cf4 : w4.cell? ⟨1, 0, none⟩ = some (errv E.fmt) := by rw [hf4.cell (Nat.lt_of_lt_of_le (Nat.lt_of_lt_of_le HE.out.fmt.lt0 HE.out.le) HF3.out.2.1.size) id]; exact cf
            have hls : findSig (D.drop (D.length - M)) (M - 21) = lastSig D M := rfl
            rw [hls]
            clear HFS HF3 ce cf hf4 hls hl
            have hfd := HF2.out
            rw [show min M D.length = M by omega] at hfd
            rcases hfd with ⟨k, hk, hres, hkb⟩ | ⟨hno2, hnone⟩
            · rw [hk]
              have hk0 : ¬ M = k := by omega
              have hk1 : (k : Int) ≤ M := by omega
              have hkp : (0 : Int) ≤ k := by omega
              clear hk
              go_wp2
              exact Met.intro (hJ _ _ ⟨M, k, hres, by omega, by omega, rfl, rfl, rfl, rfl, wr.heap.size, rfl, by simp, HB.out.size, HF4.out.1, HF4.out.2.1⟩)
            · rw [hno2]
              go_wp2
              go_region
              go_wp2
              go_ret3
              obtain rfl := hnone
              exact ⟨rfl, HF4.out.2.1.drew⟩
          · omega
        · have hge' : (D.length : Int) < M := by omega
          go_wp2_with (refine wpList_make_bytes rfl _ _ rfl D.length rfl rfl (by omega) ?_)
          intro w2 cs hg hsz hbl hlt2
          have hA2 : IsText w2 a D := below_blk hbl (below_blk HB.out HA.out)
          have hE2 : Env w2 N0 E := (HE.out.below HB.out).below hbl
          have hgN : N0 ≤ wr.heap.size := Nat.le_trans HE.out.le HB.out.size
          obtain ⟨r, hr, HC⟩ := readTail_any a wr.heap.size D.length cs D E N0 w2 hE2 hA2 hg hsz (by omega) (by omega) hgN hD
          have hb2 : Below w.heap.size w w2 := below_up HB.out hbl
          have HBL := Lib.hid hb2
          have HE2 := Lib.hid hE2
          have HS2 := Lib.hid (below_blk hbl HS.out)
          have HCC := Lib.hid HC
          have hneq := neq_same E.eof
          have ce2 : Hid (∀ w3, Fr (· = wr.heap.size) w2 w3 → w3.cell? ⟨5, 0, none⟩ = some (errv E.eof) ∧ w3.cell? ⟨1, 0, none⟩ = some (errv E.fmt)) := Lib.hid fun w3 hf => ⟨(hE2.fr hf (fun b e => e ▸ hgN)).eof.sen.cell, (hE2.fr hf (fun b e => e ▸ hgN)).fmt.sen.cell⟩
          have hna := fun n w => nilAhead_text n a w
          clear HC hg hA2 hE2 hb2 hbl c0 c1
          rw [show ((D.length - D.length : Nat) : Int) = 0 by rw [Nat.sub_self]; rfl] at HCC
          rcases hr with rfl | ⟨rfl, hz1, hz2⟩
          · go_wp2_with fail
            refine HCC.out.mono ?_
            rintro e w3 ⟨rfl, hg3, hf3⟩
            obtain ⟨ce, cf⟩ := ce2.out w3 hf3
            have hl : (D.drop (D.length - D.length)).length = D.length := by rw [List.length_drop]; omega
            have hfs := findSig_any wr.heap.size D.length (D.drop (D.length - D.length)) w3 (hg3.range (by rw [List.drop_zero]; exact List.take_of_length_le (Nat.le_refl _))) (by omega)
            rw [hl] at hfs
            have HFS := Lib.hid hfs
            have HF3 : Hid (Blk w3 wr.heap.size (u8s (D.drop (D.length - D.length))).toArray 5 ∧ Below w.heap.size w w3 ∧ Blk w3 w.heap.size #[.int .i64 1024, .int .i64 66560] 2) := Lib.hid ⟨hg3, HBL.out.trans (hf3.below HBL.out.size (fun i hi e => by have := HB.out.size; omega)), hf3.blk HS2.out (by have := HS.out.lt; omega)⟩
            clear hfs hg3 hf3 HCC ce2 hna HBL HS2 HE2
            go_wp2_with fail
            refine HFS.out.mono ?_
            rintro e w4 ⟨rfl, hf4⟩
            have HF4 : Hid (Blk w4 wr.heap.size (u8s (D.drop (D.length - D.length))).toArray 5 ∧ Below w.heap.size w w4 ∧ Blk w4 w.heap.size #[.int .i64 1024, .int .i64 66560] 2) := by
              obtain ⟨k1, k2, k3⟩ := HF3.out
              exact Lib.hid ⟨hf4.blk k1 id, k2.trans (hf4.below k2.size (fun _ _ h => h)), hf4.blk k3 id⟩
            have cf4 : w4.cell? ⟨1, 0, none⟩ = some (errv E.fmt) := by rw [hf4.cell (Nat.lt_of_lt_of_le (Nat.lt_of_lt_of_le HE.out.fmt.lt0 HE.out.le) HF3.out.2.1.size) id]; exact cf
            have hls : findSig (D.drop (D.length - D.length)) (D.length - 21) = lastSig D D.length := rfl
            rw [hls]
            clear HFS HF3 ce cf hf4 hls hl
            have hfd := HF2.out
            rw [show min M D.length = D.length by omega] at hfd
            rcases hfd with ⟨k, hk, hres, hkb⟩ | ⟨hno2, hnone⟩
            · rw [hk]
              have hk0 : ¬ D.length = k := by omega
              have hk1 : (k : Int) ≤ D.length := by omega
              have hkp : (0 : Int) ≤ k := by omega
              clear hk
              go_wp2
              exact Met.intro (hJ _ _ ⟨D.length, k, hres, by omega, by omega, rfl, rfl, rfl, rfl, wr.heap.size, rfl, by simp, HB.out.size, HF4.out.1, HF4.out.2.1⟩)
            · rw [hno2]
              go_wp2
              go_region
              go_wp2
              go_ret3
              obtain rfl := hnone
              exact ⟨rfl, HF4.out.2.1.drew⟩
          · have HZZ := Lib.hid hz1
            clear hz1 hz2
            go_wp2_with fail
            refine HCC.out.mono ?_
            rintro e w3 ⟨rfl, hg3, hf3⟩
            obtain ⟨ce, cf⟩ := ce2.out w3 hf3
            have hl : (D.drop (D.length - D.length)).length = D.length := by rw [List.length_drop]; omega
            have hfs := findSig_any wr.heap.size D.length (D.drop (D.length - D.length)) w3 (hg3.range (by rw [List.drop_zero]; exact List.take_of_length_le (Nat.le_refl _))) (by omega)
            rw [hl] at hfs
            have HFS := Lib.hid hfs
            have HF3 : Hid (Blk w3 wr.heap.size (u8s (D.drop (D.length - D.length))).toArray 5 ∧ Below w.heap.size w w3 ∧ Blk w3 w.heap.size #[.int .i64 1024, .int .i64 66560] 2) := Lib.hid ⟨hg3, HBL.out.trans (hf3.below HBL.out.size (fun i hi e => by have := HB.out.size; omega)), hf3.blk HS2.out (by have := HS.out.lt; omega)⟩
            clear hfs hg3 hf3 HCC ce2 hna HBL HS2 HE2
            go_wp2_with fail
            refine HFS.out.mono ?_
            rintro e w4 ⟨rfl, hf4⟩
            have HF4 : Hid (Blk w4 wr.heap.size (u8s (D.drop (D.length - D.length))).toArray 5 ∧ Below w.heap.size w w4 ∧ Blk w4 w.heap.size #[.int .i64 1024, .int .i64 66560] 2) := by
              obtain ⟨k1, k2, k3⟩ := HF3.out
              exact Lib.hid ⟨hf4.blk k1 id, k2.trans (hf4.below k2.size (fun _ _ h => h)), hf4.blk k3 id⟩
            have cf4 : w4.cell? ⟨1, 0, none⟩ = some (errv E.fmt) := by rw [hf4.cell (Nat.lt_of_lt_of_le (Nat.lt_of_lt_of_le HE.out.fmt.lt0 HE.out.le) HF3.out.2.1.size) id]; exact cf
            have hls : findSig (D.drop (D.length - D.length)) (D.length - 21) = lastSig D D.length := rfl
            rw [hls]
            clear HFS HF3 ce cf hf4 hls hl
            have hfd := HF2.out
            rw [show min M D.length = D.length by omega] at hfd
            rcases hfd with ⟨k, hk, hres, hkb⟩ | ⟨hno2, hnone⟩
            · rw [hk]
              have hk0 : ¬ D.length = k := by omega
              have hk1 : (k : Int) ≤ D.length := by omega
              have hkp : (0 : Int) ≤ k := by omega
              clear hk
              go_wp2
              exact Met.intro (hJ _ _ ⟨D.length, k, hres, by omega, by omega, rfl, rfl, rfl, rfl, wr.heap.size, rfl, by simp, HB.out.size, HF4.out.1, HF4.out.2.1⟩)
            · rw [hno2]
              go_wp2
              go_region
              go_wp2
              go_ret3
              obtain rfl := hnone
              exact ⟨rfl, HF4.out.2.1.drew⟩
  case rest =>
    intro x w1 hR
    obtain ⟨b, k, hres, hbD, hkb, q1, q2, q3, q4, g, q5, q6, hgn, hg, hb1⟩ := hR
    obtain ⟨u, rfl⟩ := frame211 x q1 q2
    have hu0 : u 0 = textv a := q3
    have hu1 : u 1 = .int .i64 D.length := q4
    have hu7 : u 7 = .slice (some ⟨g, k, none⟩) (b - k) (b - k) := q5
    have hu8 : u 8 = .int .i64 (D.length - b + k : Nat) := q6
    clear q1 q2 q3 q4 q5 q6
    rw [hu0, hu1, hu7, hu8]
    clear hu0 hu1 hu7 hu8
    obtain rfl := hres
    obtain ⟨h1, h2, h3, h4, h5, h6⟩ := HOK.out b k rfl
    obtain ⟨m, hm⟩ : ∃ m, m = b - k := ⟨_, rfl⟩
    obtain ⟨L, hL⟩ : ∃ L, D.drop (D.length - b) = L := ⟨_, rfl⟩
    have hLl : L.length = b := by rw [← hL, List.length_drop]; omega
    rw [← hm]
    rw [hL] at hg
    have hm4 : ¬ m = 4 := by omega
    have hm22 : (22 : Int) ≤ m := by omega
    have hz1 := hb1.size
    have hgl := hg.lt
    have hcm : Hid (m = b - k ∧ L.length = b) := Lib.hid ⟨hm, hLl⟩
    obtain ⟨v, hv⟩ : ∃ v, v = w1.heap.size := ⟨_, rfl⟩
    have hvg : w1.heap.size ≠ g := by omega
    have R0 : RS (w1.alloc (.cells #[.slice (some ⟨g, k + 4, none⟩) (m - 4) (m - 4)] 194)) w1.heap.size g (k + 4) L 5 := ⟨⟨_, by rw [show L.length - (k + 4) = m - 4 by omega]; exact Blk.new _ _ _, fun _ => rfl⟩, hg.alloc _⟩
    clear hv hm
    go_wp2_with fail
    refine ((R0).u16 hvg (by omega)).mono ?_
    rintro e w2 ⟨rfl, hr2, hf2⟩
    have hb2 : Below w.heap.size w w2 := (hb1.alloc hz1 _).trans (hf2.below (by rw [World.size_alloc]; omega) (fun i hi e => by omega))
    have H2 := Lib.hid hr2
    have HB2 := Lib.hid hb2
    have HX2 : Hid (n2 L (k + 4) = n2 D (D.length - b + k + 4)) := Lib.hid (by rw [← hL, n2_drop]; rfl)
    have hx2 := n2_lt L (k + 4)
    generalize n2 L (k + 4) = x1 at HX2 hx2 ⊢
    clear hr2 hf2 hb2
    go_wp2_with fail
    refine ((H2.out).u16 hvg (by omega)).mono ?_
    rintro e w3 ⟨rfl, hr3, hf3⟩
    have hb3 : Below w.heap.size w w3 := HB2.out.trans (hf3.below (by exact HB2.out.size) (fun i hi e => by omega))
    have H3 := Lib.hid hr3
    have HB3 := Lib.hid hb3
    have HX3 : Hid (n2 L (k + 4 + 2) = n2 D (D.length - b + k + 6)) := Lib.hid (by rw [← hL, n2_drop]; rfl)
    have hx3 := n2_lt L (k + 4 + 2)
    generalize n2 L (k + 4 + 2) = x2 at HX3 hx3 ⊢
    clear hr3 hf3 hb3 HB2 H2
    go_wp2_with fail
    refine ((H3.out).u16 hvg (by omega)).mono ?_
    rintro e w4 ⟨rfl, hr4, hf4⟩
    have hb4 : Below w.heap.size w w4 := HB3.out.trans (hf4.below (by exact HB3.out.size) (fun i hi e => by omega))
    have H4 := Lib.hid hr4
    have HB4 := Lib.hid hb4
    have HX4 : Hid (n2 L (k + 4 + 2 + 2) = n2 D (D.length - b + k + 8)) := Lib.hid (by rw [← hL, n2_drop]; rfl)
    have hx4 := n2_lt L (k + 4 + 2 + 2)
    generalize n2 L (k + 4 + 2 + 2) = x3 at HX4 hx4 ⊢
    clear hr4 hf4 hb4 HB3 H3
    go_wp2_with fail
    refine ((H4.out).u16 hvg (by omega)).mono ?_
    rintro e w5 ⟨rfl, hr5, hf5⟩
    have hb5 : Below w.heap.size w w5 := HB4.out.trans (hf5.below (by exact HB4.out.size) (fun i hi e => by omega))
    have H5 := Lib.hid hr5
    have HB5 := Lib.hid hb5
    have HX5 : Hid (n2 L (k + 4 + 2 + 2 + 2) = n2 D (D.length - b + k + 10)) := Lib.hid (by rw [← hL, n2_drop]; rfl)
    have hx5 := n2_lt L (k + 4 + 2 + 2 + 2)
    generalize n2 L (k + 4 + 2 + 2 + 2) = xr at HX5 hx5 ⊢
    clear hr5 hf5 hb5 HB4 H4
    go_wp2_with fail
    refine ((H5.out).u32 hvg (by omega)).mono ?_
    rintro e w6 ⟨rfl, hr6, hf6⟩
    have hb6 : Below w.heap.size w w6 := HB5.out.trans (hf6.below (by exact HB5.out.size) (fun i hi e => by omega))
    have H6 := Lib.hid hr6
    have HB6 := Lib.hid hb6
    have HX6 : Hid (n4 L (k + 4 + 2 + 2 + 2 + 2) = n4 D (D.length - b + k + 12)) := Lib.hid (by rw [← hL, n4_drop]; rfl)
    have hx6 := n4_lt L (k + 4 + 2 + 2 + 2 + 2)
    generalize n4 L (k + 4 + 2 + 2 + 2 + 2) = xs at HX6 hx6 ⊢
    clear hr6 hf6 hb6 HB5 H5
    go_wp2_with fail
    refine ((H6.out).u32 hvg (by omega)).mono ?_
    rintro e w7 ⟨rfl, hr7, hf7⟩
    have hb7 : Below w.heap.size w w7 := HB6.out.trans (hf7.below (by exact HB6.out.size) (fun i hi e => by omega))
    have H7 := Lib.hid hr7
    have HB7 := Lib.hid hb7
    have HX7 : Hid (n4 L (k + 4 + 2 + 2 + 2 + 2 + 4) = n4 D (D.length - b + k + 16)) := Lib.hid (by rw [← hL, n4_drop]; rfl)
    have hx7 := n4_lt L (k + 4 + 2 + 2 + 2 + 2 + 4)
    generalize n4 L (k + 4 + 2 + 2 + 2 + 2 + 4) = xo at HX7 hx7 ⊢
    clear hr7 hf7 hb7 HB6 H6
    go_wp2_with fail
    obtain ⟨cl, hcl⟩ : ∃ cl, cl = n2 L (k + 20) := ⟨_, rfl⟩
    have HCL : Hid (cl = n2 D (D.length - b + k + 20)) := Lib.hid (by rw [hcl, ← hL, n2_drop]; rfl)
    have hclt : cl < 65536 := hcl ▸ n2_lt L (k + 20)
    have hclm : cl + 22 ≤ m := by have := HCL.out; have := hcm.out; omega
    have HLAST : Hid (Calls Tryz.prog 90 #[.pointer (some ⟨w1.heap.size, 0, none⟩)] w7 fun e w' => e = .returned (.int .u16 cl) ∧ ∃ o', Hid (IsRb w' w1.heap.size (some ⟨g, o', none⟩) (m - 22) (m - 22) ∧ (0 < cl → o' = k + 22) ∧ Blk w' g (u8s L).toArray 5 ∧ Below w.heap.size w w')) := by
      have hlen := hcm.out
      obtain ⟨p, hp, hpo⟩ := H7.out.rb
      obtain rfl := hpo (by omega)
      obtain ⟨y1, y2, hy⟩ := two_of (L := L) (o := k + 20) (by omega)
      refine Lib.hid ((rb16_any w1.heap.size g (k + 20) (L.length - (k + 20)) (L.length - (k + 20)) y1 y2 w7 hp (H7.out.buf.range (xs := u8s [y1, y2]) (by have := u8s_sub' L (k + 20) 2; rw [hy] at this; simpa using this)) (by omega) (Nat.le_refl _)).mono ?_)
      rintro e w' ⟨rfl, h2', h3'⟩
      have e22 : L.length - (k + 20) - 2 = m - 22 := by omega
      rw [e22] at h2'
      refine ⟨by rw [hcl, n2, hy], ?_⟩
      have hbb : Below w.heap.size w w' := HB7.out.trans (h3'.below HB7.out.size (fun i hi e => by omega))
      unfold adv at h2'
      split at h2'
      · exact ⟨_, Lib.hid ⟨h2', fun hpos => by omega, h3'.blk H7.out.buf (fun e => hvg e.symm), hbb⟩⟩
      · exact ⟨_, Lib.hid ⟨h2', fun _ => rfl, h3'.blk H7.out.buf (fun e => hvg e.symm), hbb⟩⟩
    clear hcl H7 HB7 hg hLl h1
    refine HLAST.out.mono ?_
    rintro e w8 ⟨rfl, o', h8⟩
    clear HLAST
    have hrl : ((xr : Int) == 65535) = false := by rw [beq_eq_false_iff_ne]; have := HX5.out; omega
    have hsl : ((xs : Int) == 4294967295) = false := by rw [beq_eq_false_iff_ne]; have := HX6.out; omega
    have hol : ((xo : Int) == 4294967295) = false := by rw [beq_eq_false_iff_ne]; have := HX7.out; omega
    have c14 : w8.cell? ⟨w1.heap.size, 0, none⟩ = some (.slice (some ⟨g, o', none⟩) (m - 22) (m - 22)) := h8.out.1.cell 0
    have hv8 : w1.heap.size < w8.heap.size := h8.out.1.lt
    clear h2 h3 h4
    go_upto_region 24 with fail
    obtain ⟨S, hS⟩ : ∃ S, S = (D.drop (D.length - b + k + 22)).take cl := ⟨_, rfl⟩
    have hSl : S.length = cl := by rw [hS, List.length_take, List.length_drop]; have := hcm.out; omega
    have hsr : w8.rangeAt g o' (u8s S) := by
      by_cases hc0 : cl = 0
      · have : S = [] := List.eq_nil_of_length_eq_zero (by omega)
        rw [this]; intro j v hj; simp [u8s] at hj
      · have ho := h8.out.2.1 (by omega)
        rw [ho]
        refine h8.out.2.2.1.range ?_
        rw [length_u8s, hSl, u8s_sub', hS, ← hL, List.drop_drop]; rfl
    have hcv : ∀ cs : Array Value, (convert 194 9 (.slice (some ⟨g, o', none⟩) cl (m - 22))).run Tryz.prog (w8.alloc (.cells cs 187)) = .ok (.string (B S)) (w8.alloc (.cells cs 187)) := fun cs => by
      rw [← hSl]
      exact run_convert_bytes_back _ _ _ _ _ (m - 22) S Tryz.underlying194 Tryz.underlying5 Tryz.underlying9 fun j hj => by
        rw [add_at, ((Below.refl w8.heap.size w8).alloc (Nat.le_refl _) _).cell (p := ⟨g, o' + j, none⟩) (by show g < w8.heap.size; omega)]; exact hsr j _ (by simp [u8s, hj])
    have hsum : Hid (xs + xo + base = D.length - b + k) := Lib.hid (by rw [HX6.out, HX7.out]; exact h5)
    have hbad : base = 0 ∨ Hid (Stops (D.drop xo)) := h6.imp id (fun h => Lib.hid (by rw [HX7.out]; exact h))
    have hcl2 : (cl : Int) ≤ ((m - 22 : Nat) : Int) := by omega
    have hpD : D.length - b + k + 22 ≤ D.length := by omega
    have hle : xs + xo ≤ D.length - b + k := by have := hsum.out; omega
    have FINP : Hid (∀ w', Fr (fun i => w8.heap.size < i) (w8.alloc (.cells (endCells x1 x2 x3 xr xs xo cl S) 187)) w' → DEPost D E base w (some (b, k)) (.returned (.tuple #[.pointer (some ⟨w8.heap.size, 0, none⟩), .int .i64 base, .nilIface])) w') := by
      refine Lib.hid fun w' hf => ⟨w8.heap.size, x1, x2, x3, rfl, h8.out.2.2.2.size, ?_, (h8.out.2.2.2.alloc h8.out.2.2.2.size _).trans (hf.below (by rw [World.size_alloc]; have := h8.out.2.2.2.size; omega) (fun i hi e => by have := h8.out.2.2.2.size; omega))⟩
      have := hf.blk (Blk.new w8 (endCells x1 x2 x3 xr xs xo cl S) 187) (Nat.lt_irrefl _)
      rw [← HX5.out, ← HX6.out, ← HX7.out, ← HCL.out, ← hS]; exact this
    have HB8 := Lib.hid h8.out.2.2.2
    clear h5 h6 hsr HX2 HX3 HX4 HX5 HX6 HX7 HCL HOK HF R0 hb1 hgn hgl hz1 hvg h8 hcm hSl
    clear hL hS
    have hpp : ((D.length - b : Nat) : Int) + k = ((D.length - b + k : Nat) : Int) := by omega
    rw [hpp]
    clear hpp
    generalize D.length - b + k = p at *
    rcases hbad with rfl | hbad
    · have hb0 : ¬ (0 : Int) < (p : Int) - xs - xo := by have := hsum.out; omega
      go_wp2_with fail
      go_region
      go_wp2
      go_ret3
      show DEPost D E 0 w (some (b, k)) (.returned (.tuple #[.pointer (some ⟨w8.heap.size, 0, none⟩), .int .i64 ((p : Int) - xs - xo), .nilIface])) _
      rw [show ((p : Int) - xs - xo) = ((0 : Nat) : Int) by have := hsum.out; omega]
      exact FINP.out _ (Fr.refl _ _).drew
    · have hlt0 : (xo : Int) < (p : Int) - xs ∨ base = 0 := by have := hsum.out; omega
      by_cases hbz : base = 0
      · subst hbz
        have hb0 : ¬ (0 : Int) < (p : Int) - xs - xo := by have := hsum.out; omega
        clear hlt0
        go_wp2_with fail
        go_region
        go_wp2
        go_ret3
        show DEPost D E 0 w (some (b, k)) (.returned (.tuple #[.pointer (some ⟨w8.heap.size, 0, none⟩), .int .i64 ((p : Int) - xs - xo), .nilIface])) _
        rw [show ((p : Int) - xs - xo) = ((0 : Nat) : Int) by have := hsum.out; omega]
        exact FINP.out _ (Fr.refl _ _).drew
      · have hlt1 : (xo : Int) < (p : Int) - xs := by omega
        have HBZ := Lib.hid hbz
        have hxoD : (xo : Int) < D.length := by omega
        clear hlt0 hbz
        have HA8 : Hid (IsText (w8.alloc (.cells (endCells x1 x2 x3 xr xs xo cl S) 187)) a D ∧ Env (w8.alloc (.cells (endCells x1 x2 x3 xr xs xo cl S) 187)) N0 E) := by
          have hb9 : Below w.heap.size w (w8.alloc (.cells (endCells x1 x2 x3 xr xs xo cl S) 187)) := HB8.out.alloc HB8.out.size _
          exact Lib.hid ⟨below_blk hb9 HA.out, HE.out.below hb9⟩
        go_wp2_with fail
        go_region
        go_wp2_with fail
        refine (newSection_any a xo ((D.length : Int) - xo) _ (by omega) (by omega) (by omega)).mono ?_
        rintro e ws ⟨rfl, hws⟩
        have hq : IsPt ws (w8.heap.size + 1) a xo ((D.length : Int) - xo) D D.length (D.drop xo) ∧ Fr (fun i => w8.heap.size < i) (w8.alloc (.cells (endCells x1 x2 x3 xr xs xo cl S) 187)) ws ∧ Env ws N0 E ∧ ws.heap.size = w8.heap.size + 2 := by
          subst hws
          have hf : Fr (fun i => w8.heap.size < i) (w8.alloc (.cells (endCells x1 x2 x3 xr xs xo cl S) 187)) ((w8.alloc (.cells (endCells x1 x2 x3 xr xs xo cl S) 187)).drew.alloc (.cells #[textv a, .int .i64 xo, .int .i64 xo, .int .i64 (xo + ((D.length : Int) - xo)), .int .i64 ((D.length : Int) - xo)] 198)) := (Fr.refl _ _).drew.alloc _
          refine ⟨⟨xo, ?_, (HA8.out.1.drew).alloc _, ?_⟩, hf, HA8.out.2.fr hf (fun i hi => by have := HE.out.le; have := HB8.out.size; omega), by rw [World.size_alloc, World.size_drew, World.size_alloc]⟩
          · rw [show ((xo : Int) + ((D.length : Int) - xo)) = D.length by omega]
            exact Blk.new' _ _ (by rw [World.size_drew, World.size_alloc])
          · rw [rest, List.take_of_length_le (Nat.le_refl _)]
        have HQ := Lib.hid hq
        clear hws hq HA8
        have haw := Lib.hid (HA.out.lt)
        go_wp2_with fail
        have hfr2 : Fr (fun _ => False) ws (ws.alloc (.cells #[.string ⟨#[]⟩, .string ⟨#[]⟩, .bool false, .int .u16 0, .int .u16 0, .int .u16 0, .int .u16 0, .int .u64 0, .int .i64 0, .pointer none, .int .u16 0, .int .u16 0, .int .u32 0, .int .u32 0, .int .u32 0, .int .u64 0, .int .u64 0, .slice none 0 0, .int .u32 0, .pointer none, .nilIface, .int .i64 0] 80)) := (Fr.refl _ ws).alloc _
        obtain ⟨k1, k2, k3, k4⟩ := HQ.out
        refine (header_stopPt (w8.heap.size + 1) a N0 ws.heap.size D.length xo ((D.length : Int) - xo) D (D.drop xo) E _ (k3.fr hfr2 (fun _ h => h.elim)) (k1.fr hfr2 id id) (by have := HE.out.le; have := HB8.out.size; omega) (by have := haw.out; have := HB8.out.size; omega) (by omega) (by omega) hbad.out).mono ?_
        rintro e w10 ⟨rfl, hf10⟩
        have hse : ∃ x, stopErr E (D.drop xo) = errv x := by
          unfold stopErr
          split
          · exact ⟨_, rfl⟩
          · split <;> exact ⟨_, rfl⟩
        obtain ⟨x, hx⟩ := hse
        rw [hx]
        have hF : Hid (Fr (fun i => w8.heap.size < i) (w8.alloc (.cells (endCells x1 x2 x3 xr xs xo cl S) 187)) w10) := Lib.hid ((k2.trans2 hfr2 (fun _ h => h) (fun _ h => h.elim)).trans2 hf10 (fun _ h => h) (fun i hi => by omega))
        clear hf10 hx k1 k2 k3 k4 hfr2 HQ
        go_wp2
        go_ret3
        show DEPost D E base w (some (b, k)) (.returned (.tuple #[.pointer (some ⟨w8.heap.size, 0, none⟩), .int .i64 ((p : Int) - xs - xo), .nilIface])) _
        rw [show ((p : Int) - xs - xo) = (base : Int) by have := hsum.out; omega]
        exact FINP.out _ hF.out
end Go.Proofs.Zip
