/- A part of a proof over the given program: AllP, OpR, Ht, Ro. Nothing is assumed here. -/
import Derived.Test.YtidmhfhfcoljeaaGreatDoorZP
import Derived.Test.YtidmhfhfcoljeaaGreatDoorZQ
import Derived.Test.YtidmhfhfcoljeaaGreatDoorZT
import Derived.Deep.RegionLaw
import Derived.Deep.AppendLies
namespace Go.Proofs.Zip
open Go Go.RowKit
set_option maxRecDepth 100000 in
set_option maxHeartbeats 2000000 in
/-- All of a part is read. -/
theorem allPart_any (s a off lim N0 : Nat) (base n : Int) (D T : List UInt8) (E : Errs) (w : World) (hp : IsPart w s a base off lim n) (ha : IsText w a D) (hE : Env w N0 E) (hT : rest D off lim = T) (hTl : T.length ≤ 8388608) (_hol : off ≤ 2305843009213693952) (hlim : lim ≤ 2305843009213693952) (hD : D.length ≤ 2305843009213693952) (hs0 : N0 ≤ s) (hal : a < s) :
    Calls Tryz.prog 41 #[partv s] w fun e w' => e = .returned (.tuple #[.string (B T), .int .i64 0]) ∧ Hid (Fr (fun b => b = s) w w') := by
  go_enter Tryz.func41, Tryz.ntmps41
  have HP := Lib.hid hp
  have HA := Lib.hid ha
  have HE := Lib.hid hE
  have HT := Lib.hid hT
  have slt := hp.lt
  clear hp ha hE hT
  go_wp2_with (refine wpList_make_bytes rfl _ _ rfl 512 rfl rfl (by decide) ?_)
  intro w1 cs hgb hcs hbl hlt
  obtain ⟨gb, hgbe⟩ : ∃ gb, gb = w.heap.size + 1 := ⟨_, rfl⟩
  rw [← hgbe] at hgb hbl hlt ⊢
  have hgb0 : w.heap.size < gb := by omega
  have hfr1 : Fr (fun _ => False) (w.alloc (.cells #[] 5)) w1 := Fr.of_below (by rw [World.size_alloc, ← hgbe]; exact hbl)
  have hst : AllSt w w1 (.slice (some ⟨w.heap.size, 0, none⟩) 0 0) gb (fun b => b = s) cs [] := by
    refine ⟨ownsRow_fr (S := fun _ => False) ?_ hfr1 (fun _ h => h.elim), ?_, hgb, (((Fr.refl _ w).alloc _)).trans2 hfr1 (fun _ h => h) (fun _ h => h.elim)⟩
    · exact ⟨rfl, .inr ⟨_, 0, _, rfl, Nat.le_refl _, heap_alloc_last _ _, Nat.le_refl _, by decide, rfl, rfl⟩⟩
    · intro b hb e; simp [Value.ownBlock] at hb; omega
  have hst2 : IsPart w1 s a base off lim n ∧ IsText w1 a D := by
    have hfr : Fr (fun _ => False) w w1 := ((Fr.refl _ w).alloc _).trans2 hfr1 (fun _ h => h) (fun _ h => h)
    exact ⟨hfr.blk HP.out id, hfr.blk HA.out id⟩
  have HST := Lib.hid hst
  have HST2 := Lib.hid hst2
  clear hst hst2 hgb hbl hfr1 hlt hgbe
  go_wp2_with fail
  go_loopw [4] (fun v wr => ∃ (k : Nat) (cur : Array Value), k ≤ T.length ∧ cur.size = 512 ∧ Hid (AllSt w wr v gb (fun b => b = s) cur (T.take k)) ∧ Hid (IsPart wr s a base ((off + k : Nat) : Int) lim n)) (fun v _ => T.length - lenOfV v)
  case atStart =>
    exact ⟨0, cs, Nat.zero_le _, hcs, Lib.hid (by rw [List.take_zero]; exact HST.out), Lib.hid HST2.out.1⟩
  case round =>
    obtain ⟨k, cur, hk, hcur, hSt, hPa⟩ := hrel
    have hEr : Hid (Env wr N0 E) := Lib.hid (HE.out.fr hSt.out.fr (by rintro b e; omega))
    have hAr : Hid (IsText wr a D) := Lib.hid (hSt.out.fr.blk HA.out (by omega))
    have hn0 := HE.out.le
    have he1 : 5 < N0 := hEr.out.eof.lt0
    have hRR := partRead_any s a gb 0 512 512 (off + k) lim base n D cur 5 E.eof wr hAr.out hPa.out hSt.out.buf (by omega) hEr.out.eof.sen (by omega) (by omega) (by omega) (by decide) (Nat.le_refl _) (by decide) (by omega) (by omega)
    rw [rest_drop, HT.out] at hRR
    obtain ⟨M, hM⟩ : ∃ M, M = (T.drop k).take 512 := ⟨_, rfl⟩
    rw [← hM] at hRR
    obtain ⟨r, hr1, hr2, hR⟩ := hRR
    have HMM := Lib.hid hM
    have HR := Lib.hid hR
    have hml := congrArg List.length hM
    rw [List.length_take, List.length_drop] at hml
    have HML := Lib.hid hml
    have hml1 : M.length ≤ 512 := by omega
    have hml2 : k + M.length ≤ T.length := by omega
    clear hml
    have hlk : (T.take k).length = k := by rw [List.length_take]; omega
    have HLK := Lib.hid hlk
    have hlv := lenOfV_own hSt.out.own
    rw [hlk] at hlv
    have ceq := eql_same E.eof
    clear hlk hEr hAr hn0 hR hM he1
    have hMc : M.length ≤ cur.size := by omega
    rcases hr1 with rfl | ⟨rfl, hlast⟩
    · have hne : T.drop k ≠ [] := fun h => by have := hr2 h; cases this
      have hlt : k < T.length := by
        apply Classical.byContradiction
        intro h
        exact hne (List.drop_eq_nil_of_le (by omega))
      clear hr2 hne
      go_wp2_with fail
      refine HR.out.mono ?_
      rintro e wa ⟨rfl, hB, hP2, hF⟩
      have hSt2 : Hid (AllSt w wa _ gb (fun b => b = s) (put cur 0 M) (T.take k)) := Lib.hid (hSt.out.read hB (hF.mono (fun b _ h => h)) (by omega) (fun _ h => h) (by rintro b e; omega))
      have HP2 := Lib.hid hP2
      clear HR hB hP2 hF hSt hPa
      go_wp2_with (at_builtin; refine wpList_app_bytes rfl _ _ rfl w.heap.size _ (T.take k) rfl hSt2.out.own gb M.length 512 M rfl rfl ?c1 ?c2 ?c3 ?_)
      case c1 => have := hSt2.out.chunk (Nat.le_refl _) hMc; rw [List.take_length] at this; exact this
      case c2 => rw [HLK.out]; omega
      case c3 => exact hSt2.out.fr.size
      intro v' wb own' fr' at'
      have own2 : wb.ownsRow w.heap.size 5 1 v' (T.take k ++ M).length (u8s (T.take k ++ M)) := by rw [List.length_append, HLK.out]; exact own'
      have hSt3 := Lib.hid (hSt2.out.app (by omega) own2 fr' at')
      have hEb := HE.out.fr hSt3.out.fr (by rintro b e; omega)
      have ge : wb.cell? ⟨5, 0, none⟩ = some (errv E.eof) := hEb.eof.sen.cell
      have nq := fun e w => nil_eql e w
      have HP3 : Hid (IsPart wb s a base ((off + (k + M.length) : Nat) : Int) lim n) := Lib.hid (by
        have := fr'.blk HP2.out (fun e => by have := ownBlock_ge hSt2.out.own s e; omega)
        rw [← Nat.add_assoc]; exact this)
      clear own' own2 fr' at' hEb
      go_wp2
      have hlk2 : T.take k ++ M = T.take (k + M.length) := by
        have h2 := HMM.out
        rw [List.take_add]
        congr 1
        rw [h2, List.take_eq_take_iff]; simp
      have hcur2 : (put cur 0 M).size = 512 := by rw [size_put _ _ _ (by omega)]; exact hcur
      refine ⟨⟨k + M.length, put cur 0 M, by omega, hcur2, Lib.hid ?_, Lib.hid ?_⟩, ?_⟩
      · rw [← hlk2]; exact hSt3.out
      · exact HP3.out
      · have := HML.out
        rw [lenOfV_own hSt3.out.own, lenOfV_own hSt2.out.own, List.length_append, HLK.out]; omega
    · have HLAST := Lib.hid hlast
      clear hr2 hlast
      go_wp2_with fail
      refine HR.out.mono ?_
      rintro e wa ⟨rfl, hB, hP2, hF⟩
      have hSt2 : Hid (AllSt w wa _ gb (fun b => b = s) (put cur 0 M) (T.take k)) := Lib.hid (hSt.out.read hB (hF.mono (fun b _ h => h)) (by omega) (fun _ h => h) (by rintro b e; omega))
      clear HR hB hP2 hF hSt hPa
      go_wp2_with (at_builtin; refine wpList_app_bytes rfl _ _ rfl w.heap.size _ (T.take k) rfl hSt2.out.own gb M.length 512 M rfl rfl ?c1 ?c2 ?c3 ?_)
      case c1 => have := hSt2.out.chunk (Nat.le_refl _) hMc; rw [List.take_length] at this; exact this
      case c2 => rw [HLK.out]; omega
      case c3 => exact hSt2.out.fr.size
      intro v' wb own' fr' at'
      have own2 : wb.ownsRow w.heap.size 5 1 v' (T.take k ++ M).length (u8s (T.take k ++ M)) := by rw [List.length_append, HLK.out]; exact own'
      have hSt3 := Lib.hid (hSt2.out.app (by omega) own2 fr' at')
      have hEb := HE.out.fr hSt3.out.fr (by rintro b e; omega)
      have ge : wb.cell? ⟨5, 0, none⟩ = some (errv E.eof) := hEb.eof.sen.cell
      have hcv := run_convert_own 76 5 9 Tryz.underlying76 Tryz.underlying5 Tryz.underlying9 hSt3.out.own
      have hcv' := run_convert_own 76 5 9 Tryz.underlying76 Tryz.underlying5 Tryz.underlying9 (ownsRow_below hSt3.out.own (Below.refl _ _).drew)
      have HFIN : Hid (T.take k ++ M = T) := Lib.hid (by
        have e1 : T.take k ++ (T.drop k).take 512 = T.take (k + 512) := by rw [List.take_add]
        rw [HMM.out, e1]
        refine List.take_of_length_le ?_
        have h3 := congrArg List.length HLAST.out
        simp only [List.length_drop, List.length_nil] at h3
        omega)
      clear own' own2 fr' at' hEb
      go_wp2_with fail
      go_ret2
      exact ⟨by rw [HFIN.out]; rfl, Lib.hid hSt3.out.fr⟩
end Go.Proofs.Zip
namespace Go.Proofs.Zip
open Go Go.RowKit
set_option maxRecDepth 100000 in
set_option maxHeartbeats 2000000 in
theorem dataOff_any {f rb a off body N0 : Nat} {h : H} {non : Bool} {t0 t1 t2 x : Value} {D : List UInt8} {E : Errs} {files : Value} {comment : List UInt8} {base : Int} (w : World) (o : Opn w f rb a off body N0 h non t0 t1 t2 x D E files comment base) :
    Calls Tryz.prog 37 #[.pointer (some ⟨f, 0, none⟩)] w fun e w' => e = .returned (.tuple #[.int .i64 ((off : Int) + (body : Int)), .nilIface]) ∧ Hid (Below w.heap.size w w') := by
  go_enter Tryz.func37, Tryz.ntmps37
  have HO := Lib.hid o
  have HB := Lib.hid (body_any f a off N0 _ D _ E w o.file rfl rfl o.text o.env rfl o.loc.len o.loc.sig (by have := o.len; omega))
  have hbody := o.loc.body
  have n26 := n2_lt ((D.drop off).take 30) 26
  have n28 := n2_lt ((D.drop off).take 30) 28
  rw [hbody] at HB
  have hbl : body ≤ 200000 := by omega
  have hol := o.offl
  clear o hbody n26 n28
  go_wp2_with fail
  refine HB.out.mono ?_
  rintro e w1 ⟨rfl, hb1⟩
  have k21 : w1.cell? ⟨f, 21, none⟩ = some (.int .i64 off) := (HO.out.below hb1).file.cell 21
  have HB1 := Lib.hid hb1
  clear hb1 HB HO
  go_wp2
  go_ret2
  exact ⟨rfl, HB1⟩
/-- What OpenRaw makes of a file: a part. -/
def RawPost (a off body : Nat) (h : H) (w : World) (e : Ending) (w' : World) : Prop := ∃ s, e = .returned (.tuple #[partv s, .nilIface]) ∧ Hid (IsPart w' s a ((off : Int) + body) ((off : Int) + body) ((off : Int) + body + h.packed) h.packed ∧ w.heap.size ≤ s ∧ Below w.heap.size w w')
set_option maxRecDepth 100000 in
set_option maxHeartbeats 2000000 in
theorem openRaw_any {f rb a off body N0 : Nat} {h : H} {non : Bool} {t0 t1 t2 x : Value} {D : List UInt8} {E : Errs} {files : Value} {comment : List UInt8} {base : Int} (w : World) (o : Opn w f rb a off body N0 h non t0 t1 t2 x D E files comment base) :
    Calls Tryz.prog 40 #[.pointer (some ⟨f, 0, none⟩)] w (RawPost a off body h w) := by
  go_enter Tryz.func40, Tryz.ntmps40
  have HO := Lib.hid o
  have HB := Lib.hid (body_any f a off N0 _ D _ E w o.file rfl rfl o.text o.env rfl o.loc.len o.loc.sig (by have := o.len; omega))
  have hbody := o.loc.body
  have n26 := n2_lt ((D.drop off).take 30) 26
  have n28 := n2_lt ((D.drop off).take 30) 28
  rw [hbody] at HB
  have hbl : body ≤ 200000 := by omega
  have hol := o.offl
  have hp0 := o.packed.1
  have hp1 := o.packed.2
  clear o hbody n26 n28
  go_wp2_with fail
  refine HB.out.mono ?_
  rintro e w1 ⟨rfl, hb1⟩
  have O1 := Lib.hid (HO.out.below hb1)
  have k15 : w1.cell? ⟨f, 15, none⟩ = some (.int .u64 h.packed) := O1.out.file.cell 15
  have k20 : w1.cell? ⟨f, 20, none⟩ = some (textv a) := O1.out.file.cell 20
  have k21 : w1.cell? ⟨f, 21, none⟩ = some (.int .i64 off) := O1.out.file.cell 21
  have HB1 := Lib.hid hb1
  clear hb1 HB HO
  go_upto_region 4 with fail
  have hsum : IntKind.i64.wrap ((off : Int) + body) = (off : Int) + body := by
    rw [IntKind.wrap_i64]
    omega
  have hpk : IntKind.i64.wrap h.packed = h.packed := by
    rw [IntKind.wrap_i64]
    omega
  go_region_with (go_at_call 63; refine (newSection_any a ((off : Int) + body) h.packed _ (by omega) hp0 (by omega)).mono ?_; rintro e w3 ⟨rfl, hw3⟩; have HW3 := Lib.hid hw3; clear hw3)
  all_goals (
    have hf3 : Below w1.heap.size w1 w3 := by rw [HW3.out]; exact ((Below.refl w1.heap.size w1).drew).alloc (Nat.le_refl _) _
    have hp3 : IsPart w3 w1.heap.size a ((off : Int) + body) ((off : Int) + body) ((off : Int) + body + h.packed) h.packed := by rw [HW3.out]; exact Blk.new _ _ _
    have FIN : Hid (IsPart w3 w1.heap.size a ((off : Int) + body) ((off : Int) + body) ((off : Int) + body + h.packed) h.packed ∧ w.heap.size ≤ w1.heap.size ∧ Below w.heap.size w w3) := Lib.hid ⟨hp3, HB1.out.size, below_up HB1.out hf3⟩
    clear hf3 hp3 k15 k20 k21 hsum hpk HW3
    go_wp2
    go_ret2
    exact ⟨w1.heap.size, rfl, FIN⟩)
/-- Where a file stands. -/
structure FileLoc (D : List UInt8) (off body : Nat) (h : H) : Prop where
  loc : LocalAt D off body
  nl : h.name.length ≤ 60000
  offl : off ≤ 2305843009213693952
  packed : 0 ≤ h.packed ∧ h.packed ≤ 4294967294
set_option maxRecDepth 100000 in
set_option maxHeartbeats 2000000 in
theorem offset_any (base b k N0 kk body : Nat) (D tl : List UInt8) (hs : List (H × Nat)) (x : H × Nat) (E : Errs) (w : World) (hE : Env w N0 E) (ht : ArcText D b k base hs tl) (hc : hs.length = n2 D (D.length - b + k + 10)) (hk : hs[kk]? = some x) (hT : FileLoc D (x.2 + base) body x.1) :
    Calls Tryz.prog 15 #[.string (B D), .int .i64 kk] w fun e w' => e = .returned (.tuple #[.int .i64 ((x.2 + base + body : Nat) : Int), .int .i64 0]) ∧ Hid (Below w.heap.size w w') := by
  have hlen := ht.len
  have HFL := Lib.hid (file_any base b k N0 kk D tl hs x E w hE ht hc hk)
  have HE := Lib.hid hE
  have HT := Lib.hid hT
  clear hE ht hc hk hT
  go_enter Tryz.func15, Tryz.ntmps15
  go_wp2_with fail
  refine HFL.out.mono ?_
  rintro e w1 ⟨f, rfl, rb, a, files, non, t0, t1, t2, xv, hF⟩
  obtain ⟨hfa, hrd, hta, hb1⟩ := hF.out
  have hE1 := HE.out.below hb1
  have HB1 := Lib.hid hb1
  have HO : Hid (Opn w1 f rb a (x.2 + base) body N0 x.1 non t0 t1 t2 xv D E files _ base) := Lib.hid ⟨hfa, hrd, hta, hE1, HT.out.loc, hlen, HT.out.nl, HT.out.offl, HT.out.packed⟩
  have HOP := Lib.hid (dataOff_any w1 HO.out)
  clear hF HFL hfa hrd hta hb1 hE1
  go_wp2_with fail
  refine HOP.out.mono ?_
  rintro e w2 ⟨rfl, p9⟩
  have HE2 := Lib.hid (HO.out.env.below p9.out)
  have HB2 : Hid (Below w.heap.size w w2) := Lib.hid (below_up HB1.out p9.out)
  clear HOP p9
  go_wp2_with fail
  refine (fault_any E N0 _ 0 _ HE2.out .none).mono ?_
  rintro e w3 ⟨rfl, rfl⟩
  go_wp2_with fail
  go_ret2
  exact ⟨by rw [Int.natCast_add (x.2 + base) body]; rfl, HB2⟩
/-- Where a file stands, and its bytes. -/
structure FileRaw (D : List UInt8) (off body : Nat) (h : H) (T : List UInt8) : Prop extends FileLoc D off body h where
  len : h.packed = (T.length : Int)
  small : T.length ≤ 8388608
  text : rest D (off + body) (off + body + T.length) = T
  ends : off + body + T.length ≤ 2305843009213693952
set_option maxRecDepth 100000 in
set_option maxHeartbeats 2000000 in
theorem raw_any (base b k N0 kk body : Nat) (D tl T : List UInt8) (hs : List (H × Nat)) (x : H × Nat) (E : Errs) (w : World) (hE : Env w N0 E) (ht : ArcText D b k base hs tl) (hc : hs.length = n2 D (D.length - b + k + 10)) (hk : hs[kk]? = some x) (hT : FileRaw D (x.2 + base) body x.1 T) :
    Calls Tryz.prog 17 #[.string (B D), .int .i64 kk] w fun e w' => e = .returned (.tuple #[.string (B T), .int .i64 0]) ∧ Hid (Below w.heap.size w w') := by
  have hlen := ht.len
  have HFL := Lib.hid (file_any base b k N0 kk D tl hs x E w hE ht hc hk)
  have HE := Lib.hid hE
  have HT := Lib.hid hT
  clear hE ht hc hk hT
  go_enter Tryz.func17, Tryz.ntmps17
  go_wp2_with fail
  refine HFL.out.mono ?_
  rintro e w1 ⟨f, rfl, rb, a, files, non, t0, t1, t2, xv, hF⟩
  obtain ⟨hfa, hrd, hta, hb1⟩ := hF.out
  have hE1 := HE.out.below hb1
  have HB1 := Lib.hid hb1
  have HO : Hid (Opn w1 f rb a (x.2 + base) body N0 x.1 non t0 t1 t2 xv D E files _ base) := Lib.hid ⟨hfa, hrd, hta, hE1, HT.out.loc, hlen, HT.out.nl, HT.out.offl, HT.out.packed⟩
  have HOP := Lib.hid (openRaw_any w1 HO.out)
  clear hF HFL hfa hrd hta hb1 hE1
  go_wp2_with fail
  refine HOP.out.mono ?_
  rintro e w2 ⟨s, rfl, hP⟩
  obtain ⟨p2, p4, p9⟩ := hP.out
  have hE2 := HO.out.env.below p9
  have hle := HO.out.env.le
  have hal := HO.out.text.lt
  rw [HT.out.len] at p2
  have e1 : (((x.2 + base : Nat) : Int) + (body : Int)) = ((x.2 + base + body : Nat) : Int) := by omega
  rw [e1] at p2
  have e2 : (((x.2 + base + body : Nat) : Int) + (T.length : Int)) = ((x.2 + base + body + T.length : Nat) : Int) := by omega
  rw [e2] at p2
  have hen := HT.out.ends
  have HAL := Lib.hid (allPart_any s a (x.2 + base + body) (x.2 + base + body + T.length) N0 _ _ D T E w2 p2 (below_blk p9 HO.out.text) hE2 HT.out.text HT.out.small (by omega) (by omega) hlen (by omega) (by omega))
  have HB2 : Hid (Below w.heap.size w w2) := Lib.hid (below_up HB1.out p9)
  have hge : Hid (w.heap.size ≤ s) := Lib.hid (by have := HB1.out.size; omega)
  clear HOP hP p2 p4 p9 hE2 e1 e2 hen hle hal
  go_wp2_with fail
  refine HAL.out.mono ?_
  rintro e w3 ⟨rfl, hf3⟩
  clear HAL
  go_wp2_with fail
  go_ret2
  exact ⟨rfl, Lib.hid (HB2.out.trans (hf3.out.below HB2.out.size (by have := hge.out; rintro i hi rfl; omega)))⟩
/-- Where the k-th file stands. -/
theorem fileLoc_of {D pre R : List UInt8} {es : List E} {k : Nat} (hk : k < es.length) (hD : D = pre ++ (filesL es ++ R)) (hok : entryOk es[k] = true) (hpre : pre.length ≤ 1152921504606846976) (hF : (filesL es).length ≤ 4294967294) :
    FileLoc D ((filesL (es.take k)).length + pre.length) (30 + es[k].hdr.name.length + es[k].hdr.extra.length) es[k].hdr := by
  simp only [entryOk, Bool.and_eq_true, decide_eq_true_eq] at hok
  have hh := HOk.of hok.1
  have hd : D.drop ((filesL (es.take k)).length + pre.length) = localL es[k].hdr ++ (es[k].data ++ (filesL (es.drop (k + 1)) ++ R)) := by
    rw [hD, Nat.add_comm, ← List.drop_drop, List.drop_left, List.drop_append_of_le_length (filesL_le es k), files_drop es k hk, List.append_assoc, List.append_assoc]
  have hle := filesL_le es k
  exact ⟨localAt_of _ _ _ _ hh.name hh.extra hd, hh.name, by omega, hh.packed⟩
theorem fileRaw_of {D pre R : List UInt8} {es : List E} {k : Nat} (hk : k < es.length) (hD : D = pre ++ (filesL es ++ R)) (hok : entryOk es[k] = true) (hpre : pre.length ≤ 1152921504606846976) (hF : (filesL es).length ≤ 4294967294) (hp : es[k].hdr.packed = (es[k].data.length : Int)) :
    FileRaw D ((filesL (es.take k)).length + pre.length) (30 + es[k].hdr.name.length + es[k].hdr.extra.length) es[k].hdr es[k].data := by
  have h1 := fileLoc_of hk hD hok hpre hF
  simp only [entryOk, Bool.and_eq_true, decide_eq_true_eq] at hok
  have hh := HOk.of hok.1
  have hd : D.drop ((filesL (es.take k)).length + pre.length) = localL es[k].hdr ++ (es[k].data ++ (filesL (es.drop (k + 1)) ++ R)) := by
    rw [hD, Nat.add_comm, ← List.drop_drop, List.drop_left, List.drop_append_of_le_length (filesL_le es k), files_drop es k hk, List.append_assoc, List.append_assoc]
  have hle := filesL_le es k
  have hle1 := filesL_le es (k + 1)
  rw [filesL_snoc es k hk] at hle1
  simp only [List.length_append, length_localL] at hle1
  refine ⟨h1, hp, by omega, ?_, by omega⟩
  refine rest_of_drop D _ (filesL (es.drop (k + 1)) ++ R) _ ?_
  rw [← List.drop_drop, hd, drop_len_append _ _ _ (length_localL _).symm]
end Go.Proofs.Zip
namespace Go.Proofs.Zip
open Go Go.RowKit
/-- What impl.header tells of a header, with what was seen of its names. -/
def told (h : H) (non : Bool) : H := { h with non := non }
set_option maxRecDepth 100000 in
set_option maxHeartbeats 4000000 in
theorem tell_any (f d o cap : Nat) (h : H) (non : Bool) (t0 t1 t2 zr zipr : Value) (off : Int) (w : World) (hf : Blk w f (fileTexts h non t0 t1 t2 (.slice (some ⟨d, o, none⟩) h.extra.length cap) zr zipr off) 80) (hx : w.rangeAt d o (u8s h.extra)) (hd : d < w.heap.size) (hok : HOk h) :
    Calls Tryz.prog 34 #[.pointer (some ⟨f, 0, none⟩)] w fun e w' => e = .returned (.agg (told h non).cells.toArray) ∧ Below w.heap.size w w' := by
  obtain ⟨w1, hw1⟩ : ∃ w1, w1 = w.alloc (.cells #[.string ⟨#[]⟩, .string ⟨#[]⟩, .string ⟨#[]⟩, .bool false, .int .i64 0, .int .i64 0, .int .i64 0, .int .i64 0, .int .i64 0, .int .i64 0, .int .i64 0, .int .i64 0, .int .i64 0, .int .i64 0] 36) := ⟨_, rfl⟩
  have hf1 : Blk w1 f (fileTexts h non t0 t1 t2 (.slice (some ⟨d, o, none⟩) h.extra.length cap) zr zipr off) 80 := by rw [hw1]; exact hf.alloc _
  have hb1 : Blk w1 w.heap.size #[.string ⟨#[]⟩, .string ⟨#[]⟩, .string ⟨#[]⟩, .bool false, .int .i64 0, .int .i64 0, .int .i64 0, .int .i64 0, .int .i64 0, .int .i64 0, .int .i64 0, .int .i64 0, .int .i64 0, .int .i64 0] 36 := by rw [hw1]; exact Blk.new _ _ _
  have hx1 : w1.rangeAt d o (u8s h.extra) := by rw [hw1]; exact rangeAt_below ((Below.refl w.heap.size w).alloc (Nat.le_refl _) _) hx hd
  have c0 : w1.cell? ⟨f, 0, none⟩ = some (.string (B h.name)) := hf1.cell 0
  have c1 : w1.cell? ⟨f, 1, none⟩ = some (.string (B h.comment)) := hf1.cell 1
  have c2 : w1.cell? ⟨f, 2, none⟩ = some (.bool non) := hf1.cell 2
  have c3 : w1.cell? ⟨f, 3, none⟩ = some (.int .u16 h.creator) := hf1.cell 3
  have c4 : w1.cell? ⟨f, 4, none⟩ = some (.int .u16 h.reader) := hf1.cell 4
  have c5 : w1.cell? ⟨f, 5, none⟩ = some (.int .u16 h.flags) := hf1.cell 5
  have c6 : w1.cell? ⟨f, 6, none⟩ = some (.int .u16 h.method) := hf1.cell 6
  have c10 : w1.cell? ⟨f, 10, none⟩ = some (.int .u16 h.time) := hf1.cell 10
  have c11 : w1.cell? ⟨f, 11, none⟩ = some (.int .u16 h.date) := hf1.cell 11
  have c12 : w1.cell? ⟨f, 12, none⟩ = some (.int .u32 h.crc) := hf1.cell 12
  have c15 : w1.cell? ⟨f, 15, none⟩ = some (.int .u64 h.packed) := hf1.cell 15
  have c16 : w1.cell? ⟨f, 16, none⟩ = some (.int .u64 h.size) := hf1.cell 16
  have c17 : w1.cell? ⟨f, 17, none⟩ = some (.slice (some ⟨d, o, none⟩) h.extra.length cap) := hf1.cell 17
  have c18 : w1.cell? ⟨f, 18, none⟩ = some (.int .u32 h.ext) := hf1.cell 18
  have HB := Lib.hid hb1
  have hcv : (convert 76 9 (.slice (some ⟨d, o, none⟩) h.extra.length cap)).run Tryz.prog w1.drew = .ok (.string (B h.extra)) w1.drew :=
    run_convert_bytes_back w1.drew _ _ _ ⟨d, o, none⟩ cap h.extra Tryz.underlying76 Tryz.underlying5 Tryz.underlying9 fun j hj => by
      have := hx1 j (.int .u8 (h.extra[j].toNat : Int)) (by simp [u8s, hj])
      rw [add_at]
      exact this
  have HW := Lib.hid hw1
  obtain ⟨o1, o2, o3, o4, o5, o6, o7, o8, o9, o10, o11, o12, o13⟩ := hok
  have e1 : IntKind.i64.wrap h.creator = h.creator := by rw [IntKind.wrap_i64]; omega
  have e2 : IntKind.i64.wrap h.reader = h.reader := by rw [IntKind.wrap_i64]; omega
  have e3 : IntKind.i64.wrap h.flags = h.flags := by rw [IntKind.wrap_i64]; omega
  have e4 : IntKind.i64.wrap h.method = h.method := by rw [IntKind.wrap_i64]; omega
  have e5 : IntKind.i64.wrap h.time = h.time := by rw [IntKind.wrap_i64]; omega
  have e6 : IntKind.i64.wrap h.date = h.date := by rw [IntKind.wrap_i64]; omega
  have e7 : IntKind.i64.wrap h.crc = h.crc := by rw [IntKind.wrap_i64]; omega
  have e8 : IntKind.i64.wrap h.packed = h.packed := by rw [IntKind.wrap_i64]; omega
  have e9 : IntKind.i64.wrap h.size = h.size := by rw [IntKind.wrap_i64]; omega
  have e10 : IntKind.i64.wrap h.ext = h.ext := by rw [IntKind.wrap_i64]; omega
  clear hf hx hf1 hb1 hx1 hw1 hd
  go_enter Tryz.func34, Tryz.ntmps34
  go_upto_region 1 with fail
  rw [← HW.out]
  refine wp_still_tail 68 (by kernel_rfl) (by kernel_rfl) ?_
  simp only [List.append_eq, List.cons_append, List.nil_append, List.take_succ_cons, List.take_zero, List.drop_succ_cons, List.drop_zero]
  repeat still_step
  refine wpStill_nil ?_
  refine wpList_store_blk rfl 36 _ _ rfl w.heap.size _ (told h non).cells.toArray 36 (HB.out : Blk w1.drew w.heap.size _ 36) rfl rfl sizeHdr rfl rfl ?_
  intro hst hfr
  have hbw : Below w.heap.size w (w1.drew.setCells w.heap.size 0 (told h non).cells.toArray.toList) := by
    have h1 : Below w.heap.size w w1 := by rw [HW.out]; exact (Below.refl w.heap.size w).alloc (Nat.le_refl _) _
    exact h1.drew.trans (hfr.below h1.size (by rintro i hi rfl; omega))
  have HST := Lib.hid hst
  have HBW := Lib.hid hbw
  clear hst hfr hbw HB hcv HW
  generalize w1.drew.setCells w.heap.size 0 (told h non).cells.toArray.toList = w2 at *
  go_wp2
  (try simp only [Exit.inBlock, Exit.then])
  refine bodyPost_ret (results_cell_row rfl _ _ w.heap.size 36 _ _ _ rfl HST.out Tryz.underlying36 rfl sizeHdr) rfl ⟨rfl, HBW.out⟩
end Go.Proofs.Zip
namespace Go.Proofs.Zip
open Go Go.RowKit
theorem infoHdr : (Tryz.prog.info? 36).map (fun i => (i.zero, i.size, i.bytes)) = some (some (.agg #[.string ⟨#[]⟩, .string ⟨#[]⟩, .string ⟨#[]⟩, .bool false, .int .i64 0, .int .i64 0, .int .i64 0, .int .i64 0, .int .i64 0, .int .i64 0, .int .i64 0, .int .i64 0, .int .i64 0, .int .i64 0]), 14, 136) := by kernel_rfl
theorem sizesLst : (Tryz.prog.info? 28).map (fun i => (i.size, i.zero.map (·.cells.size))) = some (3, some 3) := by kernel_rfl
/-- The cells of a row of headers. -/
def hrows (l : List H) : List Value := l.flatMap H.cells
theorem hrows_snoc (l : List H) (h : H) : hrows (l ++ [h]) = hrows l ++ h.cells := by simp [hrows]
/-- What is told of a file. -/
def toldOf (x : H × Nat) : H := told x.1 (nonU x.1)
theorem Arc.told {w wr : World} {rb a base C0 C : Nat} {comment : List UInt8} {files : Value} {ps : List Value} {hs : List (H × Nat)} (h : Arc w rb a base C0 C comment files ps hs) {k : Nat} (hk : k < hs.length) (hb : Below w.heap.size w wr) :
    ∃ g cap f d o c t0 t1 t2 zr zipr off, files = .slice (some ⟨g, 0, none⟩) hs.length cap ∧ wr.cell? ⟨g, k, none⟩ = some (.pointer (some ⟨f, 0, none⟩)) ∧ Blk wr f (fileTexts hs[k].1 (nonU hs[k].1) t0 t1 t2 (.slice (some ⟨d, o, none⟩) hs[k].1.extra.length c) zr zipr off) 80 ∧ wr.rangeAt d o (u8s hs[k].1.extra) ∧ d < wr.heap.size := by
  obtain ⟨g, cap, p, h1, h2, f, t0, t1, t2, xv, rfl, h3, _, _, d, o, c, rfl, _, h4, _, h5, _⟩ := h.elem (List.getElem?_eq_getElem hk)
  have hg : g < w.heap.size := (ownBlock_ge h.own g (by rw [h1]; rfl)).2
  exact ⟨g, cap, f, d, o, c, t0, t1, t2, _, _, _, h1, keep hb hg h2, below_blk hb h3, rangeAt_below hb h5 h4, Nat.lt_of_lt_of_le h4 hb.size⟩
/-- 'append(out.Files, h)', as a step of a region that draws. -/
theorem step_app_hdr {ops : Array Oper} {o : Oper} {a : Act} {w2 : World} {K : Act → World → Prop} {Q : Exit → Act → World → Prop} {X : Prop} (ob : Nat) (v : Value) (kk : Nat) (xs cells : List Value) (s x : Operand) (hgd : o.guard = none)
    (ho : o.op = .call { callee := .builtin .append, args := #[s, x], argTypes := #[26, 26] }) (hs : a.eval s = v) (hx : a.eval x = .slice (some ⟨w2.heap.size, 0, none⟩) 1 1) (hown : w2.ownsRow (ob + 1) 36 14 v kk xs)
    (hl : cells.length = 14) (h1 : ∀ u ∈ cells, u.oneCell' = true) (hk : kk < 65000) (hz : ob + 1 ≤ w2.heap.size)
    (h : ∀ g cap w3, w3.ownsRow (ob + 1) 36 14 (.slice (some ⟨g, 0, none⟩) (kk + 1) cap) (kk + 1) (xs ++ cells) → Below (ob + 1) w2 w3 → K (a.put o.dst (.slice (some ⟨g, 0, none⟩) (kk + 1) cap)) w3) :
    if Region.wanted o (yielded ops a.tmps) = true then Oper.wp Tryz.prog o a (w2.alloc (.cells cells.toArray 36)) K Q else X := by
  obtain ⟨i0, hi, hz0, hz1, hz2⟩ := info_parts infoHdr
  have hz3 : (w2.alloc (.cells cells.toArray 36)).heap.size = w2.heap.size + 1 := World.size_alloc _ _
  refine step_append_lies _ hgd s x 26 ho (ob + 1) 36 i0 _ 14 136 Tryz.underlying26 hi hz0 hz1 hz2 rfl (by decide) v kk xs hs (hown.alloc _) ⟨w2.heap.size, 0, none⟩ 1 1 cells hx (by rw [hl]) ?_ h1 (by decide) (by unfold maxLen; omega) (by omega) (by omega) _ rfl ?_
  · have := World.news_of_block (heap_alloc_last w2 (.cells cells.toArray 36))
    simpa using this
  · intro g cap w3 h3 hgr _ _
    exact h g cap w3 h3 (Below.grown ((Below.refl (ob + 1) w2).alloc (by omega) _) hgr (by omega) (fun k hk => (hown.lt k hk).1))
/-- A listing that is ok. -/
def IsOk (comment : List UInt8) (l : List H) (w : World) (e : Ending) (w' : World) : Prop := ∃ v, e = .returned (.agg #[.bool true, .string (B comment), v]) ∧ Hid (w'.ownsRow w.heap.size 36 14 v l.length (hrows l)) ∧ Hid (Below w.heap.size w w')
set_option maxRecDepth 100000 in
set_option maxHeartbeats 4000000 in
theorem readOk_any (base b k N0 : Nat) (D tl : List UInt8) (hs : List (H × Nat)) (E : Errs) (w : World) (hE : Env w N0 E) (ht : ArcText D b k base hs tl) (hc : hs.length = n2 D (D.length - b + k + 10)) :
    Calls Tryz.prog 13 #[.string (B D)] w (IsOk ((D.drop (D.length - b + k + 22)).take (n2 D (D.length - b + k + 20))) (hs.map toldOf) w) := by
  have hf0 : Fr (fun _ => False) w (readW D w) := ((Fr.refl _ _).alloc _).alloc _
  have hle := hE.le
  have hcnt := ht.cnt
  have ha : IsText (readW D w) (w.heap.size + 1) D := by
    have := Blk.new (w.alloc (.cells #[.bool false, .string ⟨#[]⟩, .slice none 0 0] 28)) #[.string (B D), .int .i64 0, .int .i64 (-1)] 122
    rwa [World.size_alloc] at this
  have hr0 : Blk (readW D w) w.heap.size #[.bool false, .string ⟨#[]⟩, .slice none 0 0] 28 := (((Fr.refl (fun _ => False) (w.alloc _)).alloc _).blk (Blk.new _ _ _) id)
  have HOKS := Lib.hid ht.hok
  obtain ⟨comment, hcm⟩ : ∃ c, c = (D.drop (D.length - b + k + 22)).take (n2 D (D.length - b + k + 20)) := ⟨_, rfl⟩
  have HN := Lib.hid (newZip_any (w.heap.size + 1) base b k N0 D tl hs E _ (hE.fr hf0 (fun _ h => h.elim)) ha (by omega) ht)
  rw [← hcm] at HN ⊢
  have HC := Lib.hid hc
  have HR0 := Lib.hid hr0
  have HF0 := Lib.hid hf0
  clear hE ht hc hcm ha hr0 hf0
  go_enter Tryz.func13, Tryz.ntmps13
  go_wp2_with (go_at_call 33; refine (newText_any D _).mono ?_; rintro e w1 ⟨rfl, rfl⟩)
  refine HN.out.mono ?_
  rintro e w1 (⟨_, rb, rfl, files, ps, C0, C, hA⟩ | ⟨hn, _⟩)
  · have hb1 := hA.out.2.2.2.2
    have hr := hA.out.1.rdr
    obtain ⟨fx, fcap, hfm⟩ := own_form hA.out.1.own
    rw [hfm] at hr
    have c1 : w1.cell? ⟨rb, 1, none⟩ = some (.slice fx hs.length fcap) := hr.cell 1
    have c2 : w1.cell? ⟨rb, 2, none⟩ = some (.string (B comment)) := hr.cell 2
    have HFM := Lib.hid hfm
    have HR1 := Lib.hid (below_blk hb1 HR0.out)
    have HB1 : Hid (Below w.heap.size w w1) := Lib.hid ((HF0.out.trans2 (Fr.of_below (S := fun _ => False) hb1) (U := fun _ => False) (fun _ h => h) (fun _ h => h)).below (Nat.le_refl _) (fun _ _ h => h))
    have hlt1 : rb < w1.heap.size := hr.lt
    have HA1 := Lib.hid hA.out.1
    clear hA hb1 hr HN HR0 HF0 HC hfm
    go_wp2_with (first | (refine wpList_alloc_store 28 _ _ [.bool true, .string (B comment), .slice none 0 0] rfl rfl rfl rfl rfl rfl sizesLst rfl ?_))
    have hob1 : w1.heap.size < (w1.alloc (.cells [Value.bool true, Value.string (B comment), Value.slice none 0 0].toArray 28)).heap.size := by rw [World.size_alloc]; omega
    go_loopw [30] (fun t30 wr => ∃ (kk : Nat) (v : Value), t30 = .int .i64 kk ∧ kk ≤ hs.length ∧ Hid (Blk wr w1.heap.size #[.bool true, .string (B comment), v] 28) ∧ Hid (wr.ownsRow (w1.heap.size + 1) 36 14 v kk (hrows ((hs.take kk).map toldOf))) ∧ Hid (Below w1.heap.size w1 wr)) (fun t30 _ => hs.length - (intOf t30).toNat)
    case atStart => exact ⟨0, .slice none 0 0, rfl, Nat.zero_le _, Lib.hid (Blk.new _ _ _), Lib.hid (World.ownsRow_nil _ _ _ _), Lib.hid ((Below.refl _ _).alloc (Nat.le_refl _) _)⟩
    case round =>
      obtain ⟨kk, v, rfl, hk, hB, hO, hW⟩ := hrel
      by_cases hlt : kk < hs.length
      · obtain ⟨g, cap, f, d, o, cc, t0, t1, t2, zr, zipr, off, hfl, hcell, hfb, hx, hd⟩ := HA1.out.told hlt hW.out
        rw [HFM.out] at hfl
        cases hfl
        have hko : HOk hs[kk].1 := HOk.of (HOKS.out _ (List.getElem_mem hlt)).1
        have hsn : hrows ((hs.take (kk + 1)).map toldOf) = hrows ((hs.take kk).map toldOf) ++ (told hs[kk].1 (nonU hs[kk].1)).cells := by
          rw [List.take_succ_eq_append_getElem hlt, List.map_append]; exact hrows_snoc _ _
        generalize hs[kk].1 = h at hfb hx hko hsn
        have HSN := Lib.hid hsn
        have HFB := Lib.hid hfb
        have HX := Lib.hid hx
        have hd2 : wr.cell? ⟨w1.heap.size, 2, none⟩ = some v := hB.out.cell 2
        have hf2 : wr.frozen? ⟨w1.heap.size, 2, none⟩ = false := hB.out.frozen 2
        have HTELL := Lib.hid (tell_any f d o cc h (nonU h) t0 t1 t2 zr zipr off wr.drew HFB.out HX.out hd hko)
        have hobr : w1.heap.size < wr.heap.size := hB.out.lt
        clear hsn hfb hx hko hd
        go_upto_region 8 with fail
        have HW2 : Hid (∀ w2, Below wr.drew.heap.size wr.drew w2 → Blk w2 w1.heap.size #[.bool true, .string (B comment), v] 28 ∧ w2.ownsRow (w1.heap.size + 1) 36 14 v kk (hrows ((hs.take kk).map toldOf)) ∧ Below w1.heap.size w1 w2 ∧ w1.heap.size + 1 ≤ w2.heap.size) := Lib.hid fun w2 h2 => by
          have h3 : Below wr.heap.size wr w2 := below_up (Below.refl _ _).drew h2
          exact ⟨below_blk h3 hB.out, ownsRow_below hO.out h3, below_up hW.out h3, Nat.le_trans hobr h3.size⟩
        obtain ⟨vx, vcap, hvf⟩ := own_form hO.out
        subst hvf
        have HKK : Hid (kk < 65000) := Lib.hid (by omega)
        have HONE : Hid (∀ u ∈ (told h (nonU h)).cells, u.oneCell' = true) := Lib.hid (by simp [Value.oneCell'])
        go_region_law ((first
          | (go_simp; go_at_call 34; refine HTELL.out.mono ?_; rintro e w2 ⟨rfl, hb2⟩; dsimp only; obtain ⟨B2, O2, W2, Z2⟩ := HW2.out w2 hb2; have e2 : w2.cell? ⟨w1.heap.size, 2, none⟩ = some (.slice vx kk vcap) := B2.cell 2; have e2a : ∀ o, (w2.alloc o).cell? ⟨w1.heap.size, 2, none⟩ = some (.slice vx kk vcap) := (fun o => by rw [← e2]; exact ((Below.refl w2.heap.size w2).alloc (Nat.le_refl _) o).cell (p := ⟨w1.heap.size, 2, none⟩) Z2); have f2 : w2.frozen? ⟨w1.heap.size, 2, none⟩ = false := B2.frozen 2; have B2 := Lib.hid B2; have O2 := Lib.hid O2; have W2 := Lib.hid W2; clear hb2)
          | (refine step_app_hdr w1.heap.size _ kk _ _ _ _ rfl rfl rfl rfl O2.out rfl HONE.out HKK.out Z2 ?_; intro g2 cap2 w3 hown3 hb3; have e3 : w3.cell? ⟨w1.heap.size, 2, none⟩ = some (.slice vx kk vcap) := (by rw [hb3.cell (p := ⟨w1.heap.size, 2, none⟩) (Nat.lt_succ_self _)]; exact e2); have f3 : w3.frozen? ⟨w1.heap.size, 2, none⟩ = false := (by rw [hb3.frozen (p := ⟨w1.heap.size, 2, none⟩) (Nat.lt_succ_self _)]; exact f2); have O3 := Lib.hid hown3; have B3 := Lib.hid hb3; clear hown3 hb3)))
        all_goals (
          go_wp2_with fail
          have hB3 : Blk w3 w1.heap.size #[.bool true, .string (B comment), .slice vx kk vcap] 28 := by rw [Blk, B3.out.block _ (Nat.lt_succ_self _)]; exact B2.out
          refine ⟨⟨kk + 1, _, by go_num, by omega, Lib.hid (hB3.set 2 _), Lib.hid ?_, Lib.hid ((W2.out.trans (B3.out.mono (Nat.le_succ _))).setCell (Nat.le_refl _) _)⟩, by simp [intOf]; omega⟩
          rw [HSN.out]
          exact ownsRow_fr O3.out ((Fr.refl (· = w1.heap.size) w3).setCell (fun _ => rfl) _) (fun b hb e => by subst hb; have := (O3.out.lt _ e.symm).1; omega))
      · obtain rfl : kk = hs.length := by omega
        obtain ⟨vx, vcap, hvf⟩ := own_form hO.out
        subst hvf
        have hR := below_blk hW.out HR1.out
        have d0 : wr.cell? ⟨w1.heap.size, 0, none⟩ = some (.bool true) := hB.out.cell 0
        have d1 : wr.cell? ⟨w1.heap.size, 1, none⟩ = some (.string (B comment)) := hB.out.cell 1
        have d2 : wr.cell? ⟨w1.heap.size, 2, none⟩ = some (.slice vx hs.length vcap) := hB.out.cell 2
        have r0 : wr.cell? ⟨w.heap.size, 0, none⟩ = some (.bool false) := hR.cell 0
        have r1 : wr.cell? ⟨w.heap.size, 1, none⟩ = some (.string ⟨#[]⟩) := hR.cell 1
        have r2 : wr.cell? ⟨w.heap.size, 2, none⟩ = some (.slice none 0 0) := hR.cell 2
        have f0 : wr.frozen? ⟨w.heap.size, 0, none⟩ = false := hR.frozen 0
        have f1 : wr.frozen? ⟨w.heap.size, 1, none⟩ = false := hR.frozen 1
        have f2 : wr.frozen? ⟨w.heap.size, 2, none⟩ = false := hR.frozen 2
        have HRR := Lib.hid (((hR.set 0 (.bool true)).set 1 (.string (B comment))).set 2 (.slice vx hs.length vcap))
        have hbw : Below w.heap.size w wr := below_up HB1.out hW.out
        have HBW : Hid (Below w.heap.size w (((wr.setCell ⟨w.heap.size, 0, none⟩ (.bool true)).setCell ⟨w.heap.size, 1, none⟩ (.string (B comment))).setCell ⟨w.heap.size, 2, none⟩ (.slice vx hs.length vcap))) := Lib.hid (((hbw.setCell (Nat.le_refl _) _).setCell (Nat.le_refl _) _).setCell (Nat.le_refl _) _)
        have hlt2 : w.heap.size < w1.heap.size := HR1.out.lt
        have hOO : wr.ownsRow w.heap.size 36 14 (.slice vx hs.length vcap) hs.length (hrows (hs.map toldOf)) := by
          have := hO.out
          rw [List.take_of_length_le (Nat.le_refl _)] at this
          obtain ⟨q1, q2⟩ := this
          refine ⟨q1, ?_⟩
          rcases q2 with q2 | ⟨g', cap', cur', q3, q4, q5⟩
          · exact .inl q2
          · exact .inr ⟨g', cap', cur', q3, by omega, q5⟩
        have HOO : Hid ((((wr.setCell ⟨w.heap.size, 0, none⟩ (.bool true)).setCell ⟨w.heap.size, 1, none⟩ (.string (B comment))).setCell ⟨w.heap.size, 2, none⟩ (.slice vx hs.length vcap)).ownsRow w.heap.size 36 14 (.slice vx hs.length vcap) hs.length (hrows (hs.map toldOf))) := Lib.hid (ownsRow_fr hOO ((((Fr.refl (· = w.heap.size) wr).setCell (fun _ => rfl) _).setCell (fun _ => rfl) _).setCell (fun _ => rfl) _) (fun b hb e => by subst hb; have := (hO.out.lt _ e.symm).1; omega))
        clear hR hbw hOO
        go_wp2_with fail
        generalize (((wr.setCell ⟨w.heap.size, 0, none⟩ (.bool true)).setCell ⟨w.heap.size, 1, none⟩ (.string (B comment))).setCell ⟨w.heap.size, 2, none⟩ (.slice vx hs.length vcap)) = w5 at HRR HBW HOO
        (try simp only [Exit.inBlock, Exit.then])
        refine bodyPost_ret (results_cell_row rfl _ _ w.heap.size 28 _ _ _ rfl HRR.out Tryz.underlying28 rfl sizeLst) rfl ?_
        exact ⟨_, rfl, Lib.hid (by rw [List.length_map]; exact HOO.out), HBW⟩
  · exfalso
    have := hn.out
    have := HC.out
    have := n2_lt D (D.length - b + k + 10)
    omega
end Go.Proofs.Zip
