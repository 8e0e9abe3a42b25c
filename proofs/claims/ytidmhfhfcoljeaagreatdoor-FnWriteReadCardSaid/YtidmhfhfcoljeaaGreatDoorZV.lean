/- A part of a proof over the given program: LawEO, Pk, Lw. Nothing is assumed here. -/
import Derived.Test.YtidmhfhfcoljeaaGreatDoorZU
import Derived.Test.YtidmhfhfcoljeaaGreatDoorZS
import Derived.Laws.AppendOwnNone
import Derived.Maps.AppendAt
namespace Go.Proofs.Zip
open Go Go.RowKit
theorem Small.goods {es : List E} {c : List UInt8} (h : goodB es c = true) : ∀ x ∈ es, Small x.hdr := fun x hx => (entryOk_small (List.all_eq_true.1 (good_parts h).1 x hx)).1
/-- The beginning of a list. -/
theorem IsList.take {w : World} {a : Option Addr} {n cap : Nat} {es : List E} (h : IsList w (.slice a n cap) es) (k : Nat) (hk : k ≤ es.length) : IsList w (.slice a k cap) (es.take k) := by
  obtain ⟨a', cap', h1, h2⟩ := h
  cases h1
  refine ⟨a, cap, by rw [List.length_take, Nat.min_eq_left hk], fun hne => ?_⟩
  obtain ⟨b, off, h3, h4, h5⟩ := h2 (fun e => hne (by rw [e]; simp))
  exact ⟨b, off, h3, h4, fun j e he => h5 j e (by
    rw [List.getElem?_take] at he
    split at he
    · exact he
    · cases he)⟩
set_option maxRecDepth 100000 in
set_option maxHeartbeats 1000000 in
/-- The place of a file's content. -/
theorem place_any (es : List E) (k cap : Nat) (a : Option Addr) (w : World) (hv : IsList w (.slice a es.length cap) es) (hk : k < es.length) (hkc : k ≤ cap) (hs : ∀ x ∈ es, Small x.hdr) (hlen : es.length ≤ 4611686018427387904) (hsz : (filesL es).length ≤ 4611686018427) :
    Calls Tryz.prog 16 #[.slice a es.length cap, .int .i64 k] w fun r w' => r = .returned (.int .i64 (((filesL (es.take k)).length + (localL es[k].hdr).length : Nat) : Int)) ∧ Below w.heap.size w w' := by
  have HT := Lib.hid (hv.take k (by omega))
  have HS := Lib.hid hs
  obtain ⟨b, off, cap', hve, hblt, hr0⟩ := hv.at hk
  cases hve
  have hsm := hs es[k] (List.getElem_mem hk)
  have hle := filesL_le es k
  have hlo : (localL es[k].hdr).length ≤ 4294967400 := by rw [length_localL]; have := hsm.name; have := hsm.extra; omega
  clear hs hv
  obtain ⟨h, hh⟩ : ∃ h, h = es[k].hdr := ⟨_, rfl⟩
  have hr : w.rangeAt b (off + k * 15) h.cells := by rw [hh]; exact rangeAt_part (n := 0) hr0 rfl
  rw [← hh] at hsm hlo ⊢
  clear hr0 hh
  have c0 : w.cell? ⟨b, off + k * 15, none⟩ = some (.string (B h.name)) := hr 0 _ rfl
  have c1 : w.cell? ⟨b, off + k * 15 + 1, none⟩ = some (.string (B h.comment)) := hr 1 _ rfl
  have c2 : w.cell? ⟨b, off + k * 15 + 2, none⟩ = some (.string (B h.extra)) := hr 2 _ rfl
  have c3 : w.cell? ⟨b, off + k * 15 + 3, none⟩ = some (.bool h.non) := hr 3 _ rfl
  have c4 : w.cell? ⟨b, off + k * 15 + 4, none⟩ = some (.int .i64 h.creator) := hr 4 _ rfl
  have c5 : w.cell? ⟨b, off + k * 15 + 5, none⟩ = some (.int .i64 h.reader) := hr 5 _ rfl
  have c6 : w.cell? ⟨b, off + k * 15 + 6, none⟩ = some (.int .i64 h.flags) := hr 6 _ rfl
  have c7 : w.cell? ⟨b, off + k * 15 + 7, none⟩ = some (.int .i64 h.method) := hr 7 _ rfl
  have c8 : w.cell? ⟨b, off + k * 15 + 8, none⟩ = some (.int .i64 h.time) := hr 8 _ rfl
  have c9 : w.cell? ⟨b, off + k * 15 + 9, none⟩ = some (.int .i64 h.date) := hr 9 _ rfl
  have c10 : w.cell? ⟨b, off + k * 15 + 10, none⟩ = some (.int .i64 h.crc) := hr 10 _ rfl
  have c11 : w.cell? ⟨b, off + k * 15 + 11, none⟩ = some (.int .i64 h.packed) := hr 11 _ rfl
  have c12 : w.cell? ⟨b, off + k * 15 + 12, none⟩ = some (.int .i64 h.size) := hr 12 _ rfl
  have c13 : w.cell? ⟨b, off + k * 15 + 13, none⟩ = some (.int .i64 h.ext) := hr 13 _ rfl
  clear hr
  go_enter Tryz.func16, Tryz.ntmps16
  go_wp2_with fail
  refine wp_region_below (by kernel_rfl) (by kernel_rfl) fun σ _ f hf hcell hmk => ?_
  have HFx := fun x => (files_any (es.take k) _ (f x) (HT.out.below (hf x)) (by rw [List.length_take]; omega) (fun x hx => HS.out x (List.mem_of_mem_take hx)) (by omega)).mono (R' := fun e w' => e = .returned (.string (B (filesL (es.take k)))) ∧ ∃ y, w' = f y) fun e w' ⟨he, hb⟩ => ⟨he, hmk x w' hb⟩
  have HLx := fun x => (local_any h (f x) hsm).mono (R' := fun e w' => e = .returned (.string (B (localL h))) ∧ ∃ y, w' = f y) fun e w' ⟨he, hb⟩ => ⟨he, hmk x w' hb⟩
  repeat (go_big_quiet_step ((first | (go_at_call 29; exact HFx _) | (go_at_call 39; exact HLx _))))
  refine wpQuiet_nil ?_
  rintro _ ⟨x, rfl⟩
  go_wp2
  go_ret
  exact ⟨by first | rfl | (congr 2; omega) | simp, hf x⟩
theorem offset_good {N0 : Nat} {E0 : Errs} {es : List E} {c : List UInt8} {kk : Nat} {w : World} (hE : Env w N0 E0) (hg : goodB es c = true) (hk : kk < es.length) :
    Calls Tryz.prog 15 #[.string (B (archiveL es c)), .int .i64 kk] w fun e w' => e = .returned (.tuple #[.int .i64 (((filesL (es.take kk)).length + (localL es[kk].hdr).length : Nat) : Int), .int .i64 0]) ∧ Hid (Below w.heap.size w w') := by
  have hL := good_lay hg
  obtain ⟨b, k, hA, hp⟩ := arc_good hg hL (.inl rfl)
  have hc : (hsOf es 0).length = n2 (archiveL es c) ((archiveL es c).length - b + k + 10) := by
    rw [hsOf_length, hp, hL.n2 10 (by omega), hL.ebytes.f10]
  have hx := hsOf_get es 0 kk hk
  rw [Nat.zero_add] at hx
  have hok : entryOk es[kk] = true := List.all_eq_true.1 (good_parts hg).1 _ (List.getElem_mem hk)
  have h := offset_any _ b k N0 kk _ (archiveL es c) _ (hsOf es 0) (es[kk].hdr, (filesL (es.take kk)).length) E0 w hE hA hc hx (fileLoc_of hk hL.eq hok hL.pre hL.F)
  refine h.mono ?_
  rintro e w' ⟨rfl, hb⟩
  refine ⟨?_, hb⟩
  have e1 : (filesL (List.take kk es)).length + ([] : List UInt8).length + (30 + es[kk].hdr.name.length + es[kk].hdr.extra.length) = (filesL (List.take kk es)).length + (localL es[kk].hdr).length := by rw [length_localL]; simp
  rw [e1]
theorem raw_good {N0 : Nat} {E0 : Errs} {es : List E} {c : List UInt8} {kk : Nat} {w : World} (hE : Env w N0 E0) (hg : goodB es c = true) (hk : kk < es.length) (hp : es[kk].hdr.packed = (es[kk].data.length : Int)) :
    Calls Tryz.prog 17 #[.string (B (archiveL es c)), .int .i64 kk] w fun e w' => e = .returned (.tuple #[.string (B es[kk].data), .int .i64 0]) ∧ Hid (Below w.heap.size w w') := by
  have hL := good_lay hg
  obtain ⟨b, k, hA, hpp⟩ := arc_good hg hL (.inl rfl)
  have hc : (hsOf es 0).length = n2 (archiveL es c) ((archiveL es c).length - b + k + 10) := by
    rw [hsOf_length, hpp, hL.n2 10 (by omega), hL.ebytes.f10]
  have hx := hsOf_get es 0 kk hk
  rw [Nat.zero_add] at hx
  have hok : entryOk es[kk] = true := List.all_eq_true.1 (good_parts hg).1 _ (List.getElem_mem hk)
  exact raw_any _ b k N0 kk _ (archiveL es c) _ es[kk].data (hsOf es 0) (es[kk].hdr, (filesL (es.take kk)).length) E0 w hE hA hc hx (fileRaw_of hk hL.eq hok hL.pre hL.F hp)
set_option maxRecDepth 100000 in
set_option maxHeartbeats 2000000 in
theorem exactOffset_any {N0 : Nat} {E0 : Errs} (es : List E) (c : List UInt8) (k : Int) (v : Value) (w : World) (hE : Env w N0 E0) (hv : IsList w v es) (hlen : es.length ≤ 9223372036854775807) (hc : c.length ≤ 9223372036854775807) (hcap : Hid (∀ a n cap, v = .slice a n cap → n ≤ cap)) :
    Calls Tryz.prog 4 #[v, .string (B c), .int .i64 k] w fun e w' => e = .returned (.bool true) ∧ Below w.heap.size w w' := by
  have HFT := Lib.hid (fits1_any es v w hv hlen)
  have HE := Lib.hid hE
  have HV := Lib.hid hv
  obtain ⟨fa, fcap, rfl, -⟩ := hv
  clear hE
  go_enter Tryz.func4, Tryz.ntmps4
  go_wp2_with fail
  refine HFT.out.mono ?_
  rintro e w1 ⟨rfl, hb1⟩
  have HB1 := Lib.hid hb1
  have HV1 := Lib.hid (HV.out.below hb1)
  clear hb1 HFT HV
  cases hft : fits1 es
  · go_wp2
    go_ret
    exact ⟨rfl, HB1.out⟩
  obtain ⟨hl1, hl2⟩ := fits1_small hft
  clear hft hl2
  by_cases hcl : c.length ≤ 2147483647
  · have hcl' : ¬ (2147483647 : Int) < c.length := by omega
    by_cases hk0 : k < 0
    · go_wp2
      go_ret
      exact ⟨rfl, HB1.out⟩
    obtain ⟨kk, rfl⟩ := Int.eq_ofNat_of_zero_le (by omega : 0 ≤ k)
    clear hk0
    by_cases hk1 : kk < es.length
    · have hk1' : ¬ (es.length : Int) ≤ (kk : Int) := by omega
      have hkc : kk ≤ fcap := by have := hcap.out _ _ _ rfl; omega
      have HG := Lib.hid (good_any es c _ w1 HV1.out (by omega) (by omega))
      go_wp2_with fail
      refine HG.out.mono ?_
      rintro r w4 ⟨rfl, hb4⟩
      have HV4 := Lib.hid (HV1.out.below hb4)
      have HB4 := Lib.hid (below_up HB1.out hb4)
      clear hb4 HG HV1
      cases hgood : goodB es c
      · go_wp2
        go_ret
        exact ⟨rfl, HB4.out⟩
      have HGOOD := Lib.hid hgood
      clear hgood
      have HAR := Lib.hid (archive_good HGOOD.out _ w4 HV4.out)
      go_wp2_with fail
      refine HAR.out.mono ?_
      rintro r w5 ⟨rfl, hb5⟩
      have HB5 := Lib.hid (below_up HB4.out hb5)
      have HV5 := Lib.hid (HV4.out.below hb5)
      have HOF := Lib.hid (offset_good (N0 := N0) (E0 := E0) (w := w5) (HE.out.below HB5.out) HGOOD.out hk1)
      clear hb5 HAR HV4
      go_wp2_with fail
      refine HOF.out.mono ?_
      rintro r w6 ⟨rfl, hb6⟩
      have HB6 := Lib.hid (below_up HB5.out hb6.out)
      have hfl := filesL_ok (good_parts HGOOD.out).1
      have hgl := (good_parts HGOOD.out).2.1
      have HPL := Lib.hid (place_any es kk fcap fa w6 (HV5.out.below hb6.out) hk1 hkc (Small.goods HGOOD.out) (by omega) (by omega))
      have hpl : ((filesL (es.take kk)).length + (localL es[kk].hdr).length : Nat) ≤ 4611686018427387904 := by
        have := filesL_le es kk
        have hsm := (Small.goods HGOOD.out) es[kk] (List.getElem_mem hk1)
        have := hsm.name
        have := hsm.extra
        rw [length_localL]; omega
      obtain ⟨P, hP⟩ : ∃ P, P = ((filesL (es.take kk)).length + (localL es[kk].hdr).length : Nat) := ⟨_, rfl⟩
      rw [← hP] at HPL hpl ⊢
      clear hP HOF HV5 hb6 hfl
      go_wp2_with (first
        | (go_at_call 16; refine HPL.out.mono ?_; rintro r w8 ⟨rfl, hb8⟩)
        | (go_at_call 14; refine (reads_any (E0 := E0) (N0 := N0) _ (HE.out.below (below_up HB6.out hb8))).mono ?_; rintro r w9 ⟨rfl, hb9⟩))
      all_goals (
        go_ret
        exact ⟨rfl, below_up (below_up HB6.out hb8) hb9⟩)
    · have hk1' : (es.length : Int) ≤ (kk : Int) := by omega
      go_wp2
      go_ret
      exact ⟨rfl, HB1.out⟩
  · have hcl' : (2147483647 : Int) < c.length := by omega
    go_wp2
    go_ret
    exact ⟨rfl, HB1.out⟩
end Go.Proofs.Zip
namespace Go.Proofs.Zip
open Go Go.RowKit
/-! A list copied, and the sizes of its contents set. -/
/-- An entry whose packed size is its content's. -/
def packE (e : E) : E := { hdr := { e.hdr with packed := e.data.length }, data := e.data }
/-- The first k entries so. -/
def packL (es : List E) (k : Nat) : List E := (es.take k).map packE ++ es.drop k
theorem packL_zero (es : List E) : packL es 0 = es := by simp [packL]
theorem packL_all (es : List E) : packL es es.length = es.map packE := by simp [packL]
theorem packL_length (es : List E) (k : Nat) (hk : k ≤ es.length) : (packL es k).length = es.length := by simp [packL]; omega
theorem packL_get (es : List E) (k : Nat) (hk : k < es.length) : (packL es k)[k]'(by rw [packL_length es k (by omega)]; exact hk) = es[k] := by
  unfold packL
  have hl : ((es.take k).map packE).length = k := by rw [List.length_map, List.length_take]; omega
  rw [List.getElem_append_right (by omega)]
  simp only [hl, List.getElem_drop]
  congr 1
  omega
theorem packL_succ (es : List E) (k : Nat) (hk : k < es.length) : packL es (k + 1) = (packL es k).set k (packE es[k]) := by
  unfold packL
  have hl : ((es.take k).map packE).length = k := by rw [List.length_map, List.length_take]; omega
  rw [List.set_append_right _ _ (by omega), hl, Nat.sub_self, List.take_succ_eq_append_getElem hk, List.map_append, List.drop_eq_getElem_cons hk, List.set_cons_zero, List.append_assoc]
  rfl
/-- 'append(list0, list...)' of entries onto an empty row of the call's own. -/
theorem wpList_app_list {w : World} {ops : Array Oper} {rest : List Oper} {o : Oper} {a : Act} {Q : Exit → Act → World → Prop} (hgd : o.guard = none) (s x : Operand)
    (ho : o.op = .call { callee := .builtin .append, args := #[s, x], argTypes := #[22, 22] }) (base : Nat) (v : Value) (hs : a.eval s = v) (hown : w.ownsRow base 38 15 v 0 []) (hbase : base ≤ w.heap.size)
    (es : List E) (vl : Value) (hx : a.eval x = vl) (hl : IsList w vl es) (hnil : ∀ n cap, vl = .slice none n cap → cap = 0) (hlen : es.length ≤ 2147483647)
    (h : ∀ v' w', w'.ownsRow base 38 15 v' es.length (rows es) → Fr (fun b => some b = v.ownBlock) w w' → wpList Tryz.prog ops Q rest (a.put o.dst v') w') : wpList Tryz.prog ops Q (o :: rest) a w := by
  obtain ⟨i0, hi, hz0, hz1, hz2⟩ := info_parts infoEnt
  obtain ⟨ad, cap, rfl, hr⟩ := hl
  by_cases hne : es = []
  · subst hne
    cases ad with
    | none =>
      obtain rfl := hnil _ _ rfl
      exact wpList_append_own_none hgd s x 22 ho base 38 i0 15 Tryz.underlying22 hi v 0 [] hs hown hx (h v w hown (Fr.refl _ _))
    | some ad =>
      refine wpList_append_own_at w hgd s x 22 ho base 38 i0 _ 15 152 Tryz.underlying22 hi hz0 hz1 hz2 rfl (by decide) v 0 [] hs hown ad 0 cap [] hx rfl (fun j u hj => by cases hj) (fun u hu => by cases hu) (by unfold maxLen; omega) (by omega) hbase ?_
      intro v' w' h1 h2 _ _
      exact h v' w' h1 (Fr.of_grown h2)
  · obtain ⟨b, off, rfl, hblt, hrr⟩ := hr hne
    refine wpList_append_own_at w hgd s x 22 ho base 38 i0 _ 15 152 Tryz.underlying22 hi hz0 hz1 hz2 rfl (by decide) v 0 [] hs hown ⟨b, off, none⟩ es.length cap (rows es) hx (length_rows es) ?_ ?_ (by unfold maxLen; omega) (by omega) hbase ?_
    · intro j u hj
      rw [add_at]
      have hj15 : j / 15 < es.length := by
        have := (List.getElem?_eq_some_iff.1 hj).1
        rw [length_rows] at this
        omega
      have e1 := rows_at es (j / 15) es[j / 15] (List.getElem?_eq_getElem hj15)
      have e2 := congrArg (·[j % 15]?) e1
      simp only [List.getElem?_take, List.getElem?_drop] at e2
      rw [if_pos (Nat.mod_lt _ (by decide)), show j / 15 * 15 + j % 15 = j by omega, hj] at e2
      have := hrr (j / 15) _ (List.getElem?_eq_getElem hj15) (j % 15) u e2.symm
      rw [show off + j / 15 * 15 + j % 15 = off + j by omega] at this
      exact this
    · intro u hu
      obtain ⟨e, _, hue⟩ := List.mem_flatMap.1 hu
      simp only [E.cells, List.mem_cons, List.mem_nil_iff, or_false] at hue
      rcases hue with rfl | rfl | rfl | rfl | rfl | rfl | rfl | rfl | rfl | rfl | rfl | rfl | rfl | rfl | rfl <;> rfl
    · intro v' w' h1 h2 _ _
      exact h v' w' (by simpa using h1) (Fr.of_grown h2)
end Go.Proofs.Zip
namespace Go.Proofs.Zip
open Go Go.RowKit
/-! What the laws of the Writer share. -/
/-- What is read of an archive by the specification. -/
theorem readHs_good {N0 : Nat} {E0 : Errs} {es : List E} {c : List UInt8} (w : World) (hE : Env w N0 E0) (hg : goodB es c = true) : Calls Tryz.prog 13 #[.string (B (archiveL es c))] w (IsOk c ((hsOf es 0).map toldOf) w) := by
  have hL := good_lay hg
  obtain ⟨b, k, hA, hp⟩ := arc_good hg hL (.inl rfl)
  have hc : (hsOf es 0).length = n2 (archiveL es c) ((archiveL es c).length - b + k + 10) := by
    rw [hsOf_length, hp, hL.n2 10 (by omega), hL.ebytes.f10]
  have h := readOk_any _ b k N0 _ _ (hsOf es 0) E0 w hE hA hc
  rw [hp, hL.comment] at h
  exact h
theorem hrows_length (l : List H) : (hrows l).length = l.length * 14 := by
  induction l with
  | nil => rfl
  | cons h l ih =>
    have e : hrows (h :: l) = h.cells ++ hrows l := rfl
    have hx : h.cells.length = 14 := rfl
    have hy : (h :: l).length = l.length + 1 := rfl
    rw [e, List.length_append, ih, hx, hy]
    omega
theorem hrows_at (l : List H) (k : Nat) (h : k < l.length) (j : Nat) (hj : j < 14) : (hrows l)[k * 14 + j]? = l[k].cells[j]? := by
  induction l generalizing k with
  | nil => simp at h
  | cons x l ih =>
    have e : hrows (x :: l) = x.cells ++ hrows l := rfl
    have hx : x.cells.length = 14 := rfl
    cases k with
    | zero =>
      rw [e, List.getElem?_append_left (by omega)]
      simp
    | succ k =>
      rw [e, List.getElem?_append_right (by omega), hx, show (k + 1) * 14 + j - 14 = k * 14 + j by omega]
      rw [ih k (by simpa using h)]
      simp
/-- The cells of a listing's header. -/
theorem hdrAt {w : World} {base : Nat} {v : Value} {l : List H} (h : w.ownsRow base 36 14 v l.length (hrows l)) {k : Nat} (hk : k < l.length) :
    ∃ g cap, v = .slice (some ⟨g, 0, none⟩) l.length cap ∧ l.length ≤ cap ∧ g < w.heap.size ∧ w.rangeAt g (k * 14) l[k].cells := by
  have h' := h
  obtain ⟨hl, ho⟩ := h
  rcases ho with ⟨_, h0⟩ | ⟨g, cap, cur, rfl, hg, hh, hc, hm, hsz, htk⟩
  · omega
  · refine ⟨g, cap, rfl, hc, (Array.getElem?_eq_some_iff.1 hh).1, fun j v hj => ?_⟩
    have hj14 : j < 14 := (List.getElem?_eq_some_iff.1 hj).1
    have := h'.cells (g := g) rfl (k * 14 + j) v (by rw [hrows_at l k hk j hj14]; exact hj)
    rwa [add_at, Nat.zero_add] at this
end Go.Proofs.Zip
