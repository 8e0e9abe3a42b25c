/- A part of a proof over the given program: AllP, OpR. Nothing is assumed here. -/
import Derived.Test.YtidmhfhfcoljeaaGreatDoorZP
import Derived.Test.YtidmhfhfcoljeaaGreatDoorZQ
namespace Go.Proofs.Zip
open Go Go.RowKit
set_option maxRecDepth 100000 in
set_option maxHeartbeats 2000000 in
/-- All of a part is read. -/
theorem allPart_any (s a off lim N0 : Nat) (base n : Int) (D T : List UInt8) (E : Errs) (w : World) (hp : IsPart w s a base off lim n) (ha : IsText w a D) (hE : Env w N0 E) (hT : rest D off lim = T) (hTl : T.length ≤ 8388608) (_hol : off ≤ 2305843009213693952) (hlim : lim ≤ 2305843009213693952) (hD : D.length ≤ 2305843009213693952) (hs0 : N0 ≤ s) (hal : a < s) :
    Calls Tryz.prog 41 #[partv s] w fun e w' => e = .returned (.tuple #[.string (B T), .int .i64 0]) ∧ Hid (Fr (fun b => b = s) w w') := by
  go_enter Tryz.func41, Tryz.ntmps41
  have HP := Lib.hid hp
  have HA := Lib.hid ha
  have HE := Lib.hid hE
  have HT := Lib.hid hT
  have slt := hp.lt
  clear hp ha hE hT
  go_wp2_with (refine wpList_make_bytes rfl _ _ rfl 512 rfl rfl (by decide) ?_)
  intro w1 cs hgb hcs hbl hlt
  obtain ⟨gb, hgbe⟩ : ∃ gb, gb = w.heap.size + 1 := ⟨_, rfl⟩
  rw [← hgbe] at hgb hbl hlt ⊢
  have hgb0 : w.heap.size < gb := by omega
  have hfr1 : Fr (fun _ => False) (w.alloc (.cells #[] 5)) w1 := Fr.of_below (by rw [World.size_alloc, ← hgbe]; exact hbl)
  have hst : AllSt w w1 (.slice (some ⟨w.heap.size, 0, none⟩) 0 0) gb (fun b => b = s) cs [] := by
    refine ⟨ownsRow_fr (S := fun _ => False) ?_ hfr1 (fun _ h => h.elim), ?_, hgb, (((Fr.refl _ w).alloc _)).trans2 hfr1 (fun _ h => h) (fun _ h => h.elim)⟩
    · exact ⟨rfl, .inr ⟨_, 0, _, rfl, Nat.le_refl _, heap_alloc_last _ _, Nat.le_refl _, by decide, rfl, rfl⟩⟩
    · intro b hb e; simp [Value.ownBlock] at hb; omega
  have hst2 : IsPart w1 s a base off lim n ∧ IsText w1 a D := by
    have hfr : Fr (fun _ => False) w w1 := ((Fr.refl _ w).alloc _).trans2 hfr1 (fun _ h => h) (fun _ h => h)
    exact ⟨hfr.blk HP.out id, hfr.blk HA.out id⟩
  have HST := Lib.hid hst
  have HST2 := Lib.hid hst2
  clear hst hst2 hgb hbl hfr1 hlt hgbe
  go_wp2_with fail
  go_loopw [4] (fun v wr => ∃ (k : Nat) (cur : Array Value), k ≤ T.length ∧ cur.size = 512 ∧ Hid (AllSt w wr v gb (fun b => b = s) cur (T.take k)) ∧ Hid (IsPart wr s a base ((off + k : Nat) : Int) lim n)) (fun v _ => T.length - lenOfV v)
  case atStart =>
    exact ⟨0, cs, Nat.zero_le _, hcs, Lib.hid (by rw [List.take_zero]; exact HST.out), Lib.hid HST2.out.1⟩
  case round =>
    obtain ⟨k, cur, hk, hcur, hSt, hPa⟩ := hrel
    have hEr : Hid (Env wr N0 E) := Lib.hid (HE.out.fr hSt.out.fr (by rintro b e; omega))
    have hAr : Hid (IsText wr a D) := Lib.hid (hSt.out.fr.blk HA.out (by omega))
    have hn0 := HE.out.le
    have he1 : 5 < N0 := hEr.out.eof.lt0
    have hRR := partRead_any s a gb 0 512 512 (off + k) lim base n D cur 5 E.eof wr hAr.out hPa.out hSt.out.buf (by omega) hEr.out.eof.sen (by omega) (by omega) (by omega) (by decide) (Nat.le_refl _) (by decide) (by omega) (by omega)
    rw [rest_drop, HT.out] at hRR
    obtain ⟨M, hM⟩ : ∃ M, M = (T.drop k).take 512 := ⟨_, rfl⟩
    rw [← hM] at hRR
    obtain ⟨r, hr1, hr2, hR⟩ := hRR
    have HMM := Lib.hid hM
    have HR := Lib.hid hR
    have hml := congrArg List.length hM
    rw [List.length_take, List.length_drop] at hml
    have HML := Lib.hid hml
    have hml1 : M.length ≤ 512 := by omega
    have hml2 : k + M.length ≤ T.length := by omega
    clear hml
    have hlk : (T.take k).length = k := by rw [List.length_take]; omega
    have HLK := Lib.hid hlk
    have hlv := lenOfV_own hSt.out.own
    rw [hlk] at hlv
    have ceq := eql_same E.eof
    clear hlk hEr hAr hn0 hR hM he1
    have hMc : M.length ≤ cur.size := by omega
    rcases hr1 with rfl | ⟨rfl, hlast⟩
    · have hne : T.drop k ≠ [] := fun h => by have := hr2 h; cases this
      have hlt : k < T.length := by
        apply Classical.byContradiction
        intro h
        exact hne (List.drop_eq_nil_of_le (by omega))
      clear hr2 hne
      go_wp2_with fail
      refine HR.out.mono ?_
      rintro e wa ⟨rfl, hB, hP2, hF⟩
      have hSt2 : Hid (AllSt w wa _ gb (fun b => b = s) (put cur 0 M) (T.take k)) := Lib.hid (hSt.out.read hB (hF.mono (fun b _ h => h)) (by omega) (fun _ h => h) (by rintro b e; omega))
      have HP2 := Lib.hid hP2
      clear HR hB hP2 hF hSt hPa
      go_wp2_with (at_builtin; refine wpList_app_bytes rfl _ _ rfl w.heap.size _ (T.take k) rfl hSt2.out.own gb M.length 512 M rfl rfl ?c1 ?c2 ?c3 ?_)
      case c1 => have := hSt2.out.chunk (Nat.le_refl _) hMc; rw [List.take_length] at this; exact this
      case c2 => rw [HLK.out]; omega
      case c3 => exact hSt2.out.fr.size
      intro v' wb own' fr' at'
      have own2 : wb.ownsRow w.heap.size 5 1 v' (T.take k ++ M).length (u8s (T.take k ++ M)) := by rw [List.length_append, HLK.out]; exact own'
      have hSt3 := Lib.hid (hSt2.out.app (by omega) own2 fr' at')
      have hEb := HE.out.fr hSt3.out.fr (by rintro b e; omega)
      have ge : wb.cell? ⟨5, 0, none⟩ = some (errv E.eof) := hEb.eof.sen.cell
      have nq := fun e w => nil_eql e w
      have HP3 : Hid (IsPart wb s a base ((off + (k + M.length) : Nat) : Int) lim n) := Lib.hid (by
        have := fr'.blk HP2.out (fun e => by have := ownBlock_ge hSt2.out.own s e; omega)
        rw [← Nat.add_assoc]; exact this)
      clear own' own2 fr' at' hEb
      go_wp2
      have hlk2 : T.take k ++ M = T.take (k + M.length) := by
        have h2 := HMM.out
        rw [List.take_add]
        congr 1
        rw [h2, List.take_eq_take_iff]; simp
      have hcur2 : (put cur 0 M).size = 512 := by rw [size_put _ _ _ (by omega)]; exact hcur
      refine ⟨⟨k + M.length, put cur 0 M, by omega, hcur2, Lib.hid ?_, Lib.hid ?_⟩, ?_⟩
      · rw [← hlk2]; exact hSt3.out
      · exact HP3.out
      · have := HML.out
        rw [lenOfV_own hSt3.out.own, lenOfV_own hSt2.out.own, List.length_append, HLK.out]; omega
    · have HLAST := Lib.hid hlast
      clear hr2 hlast
      go_wp2_with fail
      refine HR.out.mono ?_
      rintro e wa ⟨rfl, hB, hP2, hF⟩
      have hSt2 : Hid (AllSt w wa _ gb (fun b => b = s) (put cur 0 M) (T.take k)) := Lib.hid (hSt.out.read hB (hF.mono (fun b _ h => h)) (by omega) (fun _ h => h) (by rintro b e; omega))
      clear HR hB hP2 hF hSt hPa
      go_wp2_with (at_builtin; refine wpList_app_bytes rfl _ _ rfl w.heap.size _ (T.take k) rfl hSt2.out.own gb M.length 512 M rfl rfl ?c1 ?c2 ?c3 ?_)
      case c1 => have := hSt2.out.chunk (Nat.le_refl _) hMc; rw [List.take_length] at this; exact this
      case c2 => rw [HLK.out]; omega
      case c3 => exact hSt2.out.fr.size
      intro v' wb own' fr' at'
      have own2 : wb.ownsRow w.heap.size 5 1 v' (T.take k ++ M).length (u8s (T.take k ++ M)) := by rw [List.length_append, HLK.out]; exact own'
      have hSt3 := Lib.hid (hSt2.out.app (by omega) own2 fr' at')
      have hEb := HE.out.fr hSt3.out.fr (by rintro b e; omega)
      have ge : wb.cell? ⟨5, 0, none⟩ = some (errv E.eof) := hEb.eof.sen.cell
      have hcv := run_convert_own 76 5 9 Tryz.underlying76 Tryz.underlying5 Tryz.underlying9 hSt3.out.own
      have hcv' := run_convert_own 76 5 9 Tryz.underlying76 Tryz.underlying5 Tryz.underlying9 (ownsRow_below hSt3.out.own (Below.refl _ _).drew)
      have HFIN : Hid (T.take k ++ M = T) := Lib.hid (by
        have e1 : T.take k ++ (T.drop k).take 512 = T.take (k + 512) := by rw [List.take_add]
        rw [HMM.out, e1]
        refine List.take_of_length_le ?_
        have h3 := congrArg List.length HLAST.out
        simp only [List.length_drop, List.length_nil] at h3
        omega)
      clear own' own2 fr' at' hEb
      go_wp2_with fail
      go_ret2
      exact ⟨by rw [HFIN.out]; rfl, Lib.hid hSt3.out.fr⟩
end Go.Proofs.Zip
namespace Go.Proofs.Zip
open Go Go.RowKit
set_option maxRecDepth 100000 in
set_option maxHeartbeats 2000000 in
theorem dataOff_any {f rb a off body N0 : Nat} {h : H} {non : Bool} {t0 t1 t2 x : Value} {D : List UInt8} {E : Errs} {files : Value} {comment : List UInt8} {base : Int} (w : World) (o : Opn w f rb a off body N0 h non t0 t1 t2 x D E files comment base) :
    Calls Tryz.prog 37 #[.pointer (some ⟨f, 0, none⟩)] w fun e w' => e = .returned (.tuple #[.int .i64 ((off : Int) + (body : Int)), .nilIface]) ∧ Hid (Below w.heap.size w w') := by
  go_enter Tryz.func37, Tryz.ntmps37
  have HO := Lib.hid o
  have HB := Lib.hid (body_any f a off N0 _ D _ E w o.file rfl rfl o.text o.env rfl o.loc.len o.loc.sig (by have := o.len; omega))
  have hbody := o.loc.body
  have n26 := n2_lt ((D.drop off).take 30) 26
  have n28 := n2_lt ((D.drop off).take 30) 28
  rw [hbody] at HB
  have hbl : body ≤ 200000 := by omega
  have hol := o.offl
  clear o hbody n26 n28
  go_wp2_with fail
  refine HB.out.mono ?_
  rintro e w1 ⟨rfl, hb1⟩
  have k21 : w1.cell? ⟨f, 21, none⟩ = some (.int .i64 off) := (HO.out.below hb1).file.cell 21
  have HB1 := Lib.hid hb1
  clear hb1 HB HO
  go_wp2
  go_ret2
  exact ⟨rfl, HB1⟩
/-- What OpenRaw makes of a file: a part. -/
def RawPost (a off body : Nat) (h : H) (w : World) (e : Ending) (w' : World) : Prop := ∃ s, e = .returned (.tuple #[partv s, .nilIface]) ∧ Hid (IsPart w' s a ((off : Int) + body) ((off : Int) + body) ((off : Int) + body + h.packed) h.packed ∧ w.heap.size ≤ s ∧ Below w.heap.size w w')
set_option maxRecDepth 100000 in
set_option maxHeartbeats 2000000 in
theorem openRaw_any {f rb a off body N0 : Nat} {h : H} {non : Bool} {t0 t1 t2 x : Value} {D : List UInt8} {E : Errs} {files : Value} {comment : List UInt8} {base : Int} (w : World) (o : Opn w f rb a off body N0 h non t0 t1 t2 x D E files comment base) :
    Calls Tryz.prog 40 #[.pointer (some ⟨f, 0, none⟩)] w (RawPost a off body h w) := by
  go_enter Tryz.func40, Tryz.ntmps40
  have HO := Lib.hid o
  have HB := Lib.hid (body_any f a off N0 _ D _ E w o.file rfl rfl o.text o.env rfl o.loc.len o.loc.sig (by have := o.len; omega))
  have hbody := o.loc.body
  have n26 := n2_lt ((D.drop off).take 30) 26
  have n28 := n2_lt ((D.drop off).take 30) 28
  rw [hbody] at HB
  have hbl : body ≤ 200000 := by omega
  have hol := o.offl
  have hp0 := o.packed.1
  have hp1 := o.packed.2
  clear o hbody n26 n28
  go_wp2_with fail
  refine HB.out.mono ?_
  rintro e w1 ⟨rfl, hb1⟩
  have O1 := Lib.hid (HO.out.below hb1)
  have k15 : w1.cell? ⟨f, 15, none⟩ = some (.int .u64 h.packed) := O1.out.file.cell 15
  have k20 : w1.cell? ⟨f, 20, none⟩ = some (textv a) := O1.out.file.cell 20
  have k21 : w1.cell? ⟨f, 21, none⟩ = some (.int .i64 off) := O1.out.file.cell 21
  have HB1 := Lib.hid hb1
  clear hb1 HB HO
  go_upto_region 4 with fail
  have hsum : IntKind.i64.wrap ((off : Int) + body) = (off : Int) + body := by
    rw [IntKind.wrap_i64]
    omega
  have hpk : IntKind.i64.wrap h.packed = h.packed := by
    rw [IntKind.wrap_i64]
    omega
  go_region_with (go_at_call 63; refine (newSection_any a ((off : Int) + body) h.packed _ (by omega) hp0 (by omega)).mono ?_; rintro e w3 ⟨rfl, hw3⟩; have HW3 := Lib.hid hw3; clear hw3)
  all_goals (
    have hf3 : Below w1.heap.size w1 w3 := by rw [HW3.out]; exact ((Below.refl w1.heap.size w1).drew).alloc (Nat.le_refl _) _
    have hp3 : IsPart w3 w1.heap.size a ((off : Int) + body) ((off : Int) + body) ((off : Int) + body + h.packed) h.packed := by rw [HW3.out]; exact Blk.new _ _ _
    have FIN : Hid (IsPart w3 w1.heap.size a ((off : Int) + body) ((off : Int) + body) ((off : Int) + body + h.packed) h.packed ∧ w.heap.size ≤ w1.heap.size ∧ Below w.heap.size w w3) := Lib.hid ⟨hp3, HB1.out.size, below_up HB1.out hf3⟩
    clear hf3 hp3 k15 k20 k21 hsum hpk HW3
    go_wp2
    go_ret2
    exact ⟨w1.heap.size, rfl, FIN⟩)
/-- Where a file stands. -/
structure FileLoc (D : List UInt8) (off body : Nat) (h : H) : Prop where
  loc : LocalAt D off body
  nl : h.name.length ≤ 60000
  offl : off ≤ 2305843009213693952
  packed : 0 ≤ h.packed ∧ h.packed ≤ 4294967294
set_option maxRecDepth 100000 in
set_option maxHeartbeats 2000000 in
theorem offset_any (base b k N0 kk body : Nat) (D tl : List UInt8) (hs : List (H × Nat)) (x : H × Nat) (E : Errs) (w : World) (hE : Env w N0 E) (ht : ArcText D b k base hs tl) (hc : hs.length = n2 D (D.length - b + k + 10)) (hk : hs[kk]? = some x) (hT : FileLoc D (x.2 + base) body x.1) :
    Calls Tryz.prog 15 #[.string (B D), .int .i64 kk] w fun e w' => e = .returned (.tuple #[.int .i64 ((x.2 + base + body : Nat) : Int), .int .i64 0]) ∧ Hid (Below w.heap.size w w') := by
  have hlen := ht.len
  have HFL := Lib.hid (file_any base b k N0 kk D tl hs x E w hE ht hc hk)
  have HE := Lib.hid hE
  have HT := Lib.hid hT
  clear hE ht hc hk hT
  go_enter Tryz.func15, Tryz.ntmps15
  go_wp2_with fail
  refine HFL.out.mono ?_
  rintro e w1 ⟨f, rfl, rb, a, files, non, t0, t1, t2, xv, hF⟩
  obtain ⟨hfa, hrd, hta, hb1⟩ := hF.out
  have hE1 := HE.out.below hb1
  have HB1 := Lib.hid hb1
  have HO : Hid (Opn w1 f rb a (x.2 + base) body N0 x.1 non t0 t1 t2 xv D E files _ base) := Lib.hid ⟨hfa, hrd, hta, hE1, HT.out.loc, hlen, HT.out.nl, HT.out.offl, HT.out.packed⟩
  have HOP := Lib.hid (dataOff_any w1 HO.out)
  clear hF HFL hfa hrd hta hb1 hE1
  go_wp2_with fail
  refine HOP.out.mono ?_
  rintro e w2 ⟨rfl, p9⟩
  have HE2 := Lib.hid (HO.out.env.below p9.out)
  have HB2 : Hid (Below w.heap.size w w2) := Lib.hid (below_up HB1.out p9.out)
  clear HOP p9
  go_wp2_with fail
  refine (fault_any E N0 _ 0 _ HE2.out .none).mono ?_
  rintro e w3 ⟨rfl, rfl⟩
  go_wp2_with fail
  go_ret2
  exact ⟨by rw [Int.natCast_add (x.2 + base) body]; rfl, HB2⟩
/-- Where a file stands, and its bytes. -/
structure FileRaw (D : List UInt8) (off body : Nat) (h : H) (T : List UInt8) : Prop extends FileLoc D off body h where
  len : h.packed = (T.length : Int)
  small : T.length ≤ 8388608
  text : rest D (off + body) (off + body + T.length) = T
  ends : off + body + T.length ≤ 2305843009213693952
set_option maxRecDepth 100000 in
set_option maxHeartbeats 2000000 in
theorem raw_any (base b k N0 kk body : Nat) (D tl T : List UInt8) (hs : List (H × Nat)) (x : H × Nat) (E : Errs) (w : World) (hE : Env w N0 E) (ht : ArcText D b k base hs tl) (hc : hs.length = n2 D (D.length - b + k + 10)) (hk : hs[kk]? = some x) (hT : FileRaw D (x.2 + base) body x.1 T) :
    Calls Tryz.prog 17 #[.string (B D), .int .i64 kk] w fun e w' => e = .returned (.tuple #[.string (B T), .int .i64 0]) ∧ Hid (Below w.heap.size w w') := by
  have hlen := ht.len
  have HFL := Lib.hid (file_any base b k N0 kk D tl hs x E w hE ht hc hk)
  have HE := Lib.hid hE
  have HT := Lib.hid hT
  clear hE ht hc hk hT
  go_enter Tryz.func17, Tryz.ntmps17
  go_wp2_with fail
  refine HFL.out.mono ?_
  rintro e w1 ⟨f, rfl, rb, a, files, non, t0, t1, t2, xv, hF⟩
  obtain ⟨hfa, hrd, hta, hb1⟩ := hF.out
  have hE1 := HE.out.below hb1
  have HB1 := Lib.hid hb1
  have HO : Hid (Opn w1 f rb a (x.2 + base) body N0 x.1 non t0 t1 t2 xv D E files _ base) := Lib.hid ⟨hfa, hrd, hta, hE1, HT.out.loc, hlen, HT.out.nl, HT.out.offl, HT.out.packed⟩
  have HOP := Lib.hid (openRaw_any w1 HO.out)
  clear hF HFL hfa hrd hta hb1 hE1
  go_wp2_with fail
  refine HOP.out.mono ?_
  rintro e w2 ⟨s, rfl, hP⟩
  obtain ⟨p2, p4, p9⟩ := hP.out
  have hE2 := HO.out.env.below p9
  have hle := HO.out.env.le
  have hal := HO.out.text.lt
  rw [HT.out.len] at p2
  have e1 : (((x.2 + base : Nat) : Int) + (body : Int)) = ((x.2 + base + body : Nat) : Int) := by omega
  rw [e1] at p2
  have e2 : (((x.2 + base + body : Nat) : Int) + (T.length : Int)) = ((x.2 + base + body + T.length : Nat) : Int) := by omega
  rw [e2] at p2
  have hen := HT.out.ends
  have HAL := Lib.hid (allPart_any s a (x.2 + base + body) (x.2 + base + body + T.length) N0 _ _ D T E w2 p2 (below_blk p9 HO.out.text) hE2 HT.out.text HT.out.small (by omega) (by omega) hlen (by omega) (by omega))
  have HB2 : Hid (Below w.heap.size w w2) := Lib.hid (below_up HB1.out p9)
  have hge : Hid (w.heap.size ≤ s) := Lib.hid (by have := HB1.out.size; omega)
  clear HOP hP p2 p4 p9 hE2 e1 e2 hen hle hal
  go_wp2_with fail
  refine HAL.out.mono ?_
  rintro e w3 ⟨rfl, hf3⟩
  clear HAL
  go_wp2_with fail
  go_ret2
  exact ⟨rfl, Lib.hid (HB2.out.trans (hf3.out.below HB2.out.size (by have := hge.out; rintro i hi rfl; omega)))⟩
/-- Where the k-th file stands. -/
theorem fileLoc_of {D pre R : List UInt8} {es : List E} {k : Nat} (hk : k < es.length) (hD : D = pre ++ (filesL es ++ R)) (hok : entryOk es[k] = true) (hpre : pre.length ≤ 1152921504606846976) (hF : (filesL es).length ≤ 4294967294) :
    FileLoc D ((filesL (es.take k)).length + pre.length) (30 + es[k].hdr.name.length + es[k].hdr.extra.length) es[k].hdr := by
  simp only [entryOk, Bool.and_eq_true, decide_eq_true_eq] at hok
  have hh := HOk.of hok.1
  have hd : D.drop ((filesL (es.take k)).length + pre.length) = localL es[k].hdr ++ (es[k].data ++ (filesL (es.drop (k + 1)) ++ R)) := by
    rw [hD, Nat.add_comm, ← List.drop_drop, List.drop_left, List.drop_append_of_le_length (filesL_le es k), files_drop es k hk, List.append_assoc, List.append_assoc]
  have hle := filesL_le es k
  exact ⟨localAt_of _ _ _ _ hh.name hh.extra hd, hh.name, by omega, hh.packed⟩
theorem fileRaw_of {D pre R : List UInt8} {es : List E} {k : Nat} (hk : k < es.length) (hD : D = pre ++ (filesL es ++ R)) (hok : entryOk es[k] = true) (hpre : pre.length ≤ 1152921504606846976) (hF : (filesL es).length ≤ 4294967294) (hp : es[k].hdr.packed = (es[k].data.length : Int)) :
    FileRaw D ((filesL (es.take k)).length + pre.length) (30 + es[k].hdr.name.length + es[k].hdr.extra.length) es[k].hdr es[k].data := by
  have h1 := fileLoc_of hk hD hok hpre hF
  simp only [entryOk, Bool.and_eq_true, decide_eq_true_eq] at hok
  have hh := HOk.of hok.1
  have hd : D.drop ((filesL (es.take k)).length + pre.length) = localL es[k].hdr ++ (es[k].data ++ (filesL (es.drop (k + 1)) ++ R)) := by
    rw [hD, Nat.add_comm, ← List.drop_drop, List.drop_left, List.drop_append_of_le_length (filesL_le es k), files_drop es k hk, List.append_assoc, List.append_assoc]
  have hle := filesL_le es k
  have hle1 := filesL_le es (k + 1)
  rw [filesL_snoc es k hk] at hle1
  simp only [List.length_append, length_localL] at hle1
  refine ⟨h1, hp, by omega, ?_, by omega⟩
  refine rest_of_drop D _ (filesL (es.drop (k + 1)) ++ R) _ ?_
  rw [← List.drop_drop, hd, drop_len_append _ _ _ (length_localL _).symm]
end Go.Proofs.Zip
