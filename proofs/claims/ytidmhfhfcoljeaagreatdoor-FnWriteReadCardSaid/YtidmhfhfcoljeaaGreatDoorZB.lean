/- A part of a proof over the given program: SpecD, SpecE, SpecF. Nothing is assumed here. -/
import Derived.Test.YtidmhfhfcoljeaaGreatDoorZA
namespace Go.Proofs.Zip
open Go Go.RowKit
def endsSlash (l : List UInt8) : Bool := l.getLast? == some 47
def dirOk (e : E) : Bool := !(endsSlash e.hdr.name && !e.data.isEmpty)
def directoriesB (es : List E) : Bool := es.all dirOk
theorem endsSlash_eq {l : List UInt8} (h : 0 < l.length) : endsSlash l = (l[l.length - 1]'(by omega) == 47) := by
  unfold endsSlash
  rw [List.getLast?_eq_getElem?, List.getElem?_eq_getElem (by omega)]
  rw [Bool.eq_iff_iff]; simp

theorem directoriesB_not {es : List E} {k : Nat} {hk : k < es.length} {e : E} (he : es[k] = e) (hn : dirOk e = false) : directoriesB es = false := by
  unfold directoriesB; rw [List.all_eq_false]; exact ⟨e, by rw [← he]; exact List.getElem_mem hk, by simp [hn]⟩
set_option maxRecDepth 100000 in
set_option maxHeartbeats 1000000 in
theorem directories_any (es : List E) (v : Value) (w : World) (hv : IsList w v es) (hlen : es.length ≤ 4611686018427387904) (hs : ∀ e ∈ es, e.hdr.name.length ≤ 4611686018427387904) :
    Calls Tryz.prog 19 #[v] w fun r w' => r = .returned (.bool (directoriesB es)) ∧ Below w.heap.size w w' := by
  have HS := Lib.hid hs
  obtain ⟨a, cap, rfl, hl⟩ := hv
  clear hs
  go_enter Tryz.func19, Tryz.ntmps19
  go_wp2
  go_loopw [8] (fun t8 wr => ∃ k : Nat, t8 = .int .i64 k ∧ k ≤ es.length ∧ Hid ((es.take k).all dirOk = true) ∧ Below w.heap.size w wr) (fun t8 _ => es.length - (intOf t8).toNat)
  case atStart => exact ⟨0, rfl, Nat.zero_le _, rfl, Below.refl _ _⟩
  case round =>
    obtain ⟨k, rfl, hk, hall, hb⟩ := hrel
    by_cases hlt : k < es.length
    · obtain ⟨b, off, rfl, hblt, hr⟩ := hl (fun e => by simp [e] at hlt)
      have hr := rangeAt_below hb (hr k es[k] (List.getElem?_eq_getElem hlt)) hblt
      have hn := HS.out es[k] (List.getElem_mem hlt)
      have hsz := hb.size
      generalize he : es[k] = e at hr hn
      have He := Lib.hid he
      clear he
      by_cases h0 : 0 < e.hdr.name.length
      · go_wp2_with (first
          | (refine wpList_load_mid rfl 38 _ rfl b (off + k * 15) rfl e.cells _ hr Tryz.underlying38 rfl sizeEnt ?_)
          | (refine wpList_alloc_store 38 _ _ e.cells rfl rfl rfl rfl rfl rfl sizesEnt rfl ?_))
        · have h47 : ((e.hdr.name[e.hdr.name.length - 1]'(by omega)).toNat : Int) = 47 := ‹_›
          have hd : (!e.data.isEmpty) = true := ‹_›
          have hno : dirOk e = false := by
            have : (e.hdr.name[e.hdr.name.length - 1]'(by omega)) = 47 := UInt8.toNat_inj.1 (by simp; omega)
            unfold dirOk; rw [endsSlash_eq h0, this, hd]; rfl
          go_ret
          exact ⟨by rw [directoriesB_not He.out hno]; rfl, hb.alloc hb.size _⟩
        · have hd : (!e.data.isEmpty) = false := ‹_›
          refine ⟨⟨k + 1, by go_num, by omega, ?_, hb.alloc hb.size _⟩, by simp [intOf]; omega⟩
          show _ = _
          rw [List.take_succ_eq_append_getElem hlt, List.all_append, hall.out, He.out]; simp [dirOk]; simp at hd; simp [hd]
        · have h47 : ¬ ((e.hdr.name[e.hdr.name.length - 1]'(by omega)).toNat : Int) = 47 := ‹_›
          have hno : endsSlash e.hdr.name = false := by
            rw [endsSlash_eq h0, beq_eq_false_iff_ne]; intro e'; apply h47; rw [e']; rfl
          refine ⟨⟨k + 1, by go_num, by omega, ?_, hb.alloc hb.size _⟩, by simp [intOf]; omega⟩
          show _ = _
          rw [List.take_succ_eq_append_getElem hlt, List.all_append, hall.out, He.out]; simp [dirOk, hno]
      · go_wp2_with (first
          | (refine wpList_load_mid rfl 38 _ rfl b (off + k * 15) rfl e.cells _ hr Tryz.underlying38 rfl sizeEnt ?_)
          | (refine wpList_alloc_store 38 _ _ e.cells rfl rfl rfl rfl rfl rfl sizesEnt rfl ?_))
        have hno : endsSlash e.hdr.name = false := by
          rw [List.eq_nil_of_length_eq_zero (by omega : e.hdr.name.length = 0)]; rfl
        refine ⟨⟨k + 1, by go_num, by omega, ?_, hb.alloc hb.size _⟩, by simp [intOf]; omega⟩
        show _ = _
        rw [List.take_succ_eq_append_getElem hlt, List.all_append, hall.out, He.out]; simp [dirOk, hno]
    · obtain rfl : k = es.length := by omega
      go_wp2
      go_ret
      refine ⟨?_, hb⟩
      have := hall.out
      rw [List.take_of_length_le (Nat.le_refl _)] at this
      show Ending.returned (Value.bool true) = _
      rw [directoriesB, this]
end Go.Proofs.Zip
namespace Go.Proofs.Zip
open Go Go.RowKit

def crcBits : Nat → Nat → Nat
  | 0, c => c
  | j + 1, c => crcBit (crcBits j c)
theorem crcBits_lt (j : Nat) {c : Nat} (h : c < 4294967296) : crcBits j c < 4294967296 := by
  induction j with
  | zero => exact h
  | succ j ih => exact crcBit_lt ih
set_option maxRecDepth 100000 in
set_option maxHeartbeats 1000000 in
theorem crc_any (l : List UInt8) (w : World) (hl : l.length ≤ 4611686018427387904) : Calls Tryz.prog 88 #[.string (B l)] w fun r w' => r = .returned (.int .i64 (crc l)) ∧ w = w' := by
  go_enter Tryz.func88, Tryz.ntmps88
  go_wp2
  go_loop [3, 4] (fun t3 t4 => ∃ k c : Nat, t4 = .int .i64 k ∧ t3 = .int .u32 c ∧ k ≤ l.length ∧ c < 4294967296 ∧ Hid (c = crcRaw 4294967295 (l.take k))) (fun _ t4 => l.length - (intOf t4).toNat)
  case atStart => exact ⟨0, 4294967295, rfl, rfl, Nat.zero_le _, by decide, by show _ = _; rfl⟩
  case round =>
    obtain ⟨k, c, rfl, rfl, hk, hc, he⟩ := hrel
    by_cases hlt : k < l.length
    · have hsn : crcRaw 4294967295 (l.take (k + 1)) = crc8 (crcRaw 4294967295 (l.take k) ^^^ l[k].toNat) := by
        unfold crcRaw; rw [List.take_succ_eq_append_getElem hlt, List.foldl_append]; rfl
      have HSN := Lib.hid hsn
      have hx : c ^^^ l[k].toNat < 4294967296 := Nat.xor_lt_two_pow (n := 32) hc (by have := l[k].toNat_lt; omega)
      have h256 : l[k].toNat < 256 := l[k].toNat_lt
      have hxx : bits .xor .u32 (c : Int) (l[k].toNat : Int) = ((c ^^^ l[k].toNat : Nat) : Int) := u32_xor_nat c _ hc (by omega)
      clear hsn
      go_wp2
      generalize c ^^^ l[k].toNat = x at hx hxx
      go_loop [3, 5] (fun t3 t5 => ∃ j : Nat, t5 = .int .i64 j ∧ t3 = .int .u32 (crcBits j x) ∧ j ≤ 8) (fun _ t5 => 8 - (intOf t5).toNat)
      case atStart => exact ⟨0, rfl, rfl, Nat.zero_le _⟩
      case round =>
        obtain ⟨j, rfl, rfl, hj⟩ := hrel
        by_cases hj8 : j < 8
        · have hy := crcBits_lt j hx
          have HS2 : Hid (crcBits (j + 1) x = crcBit (crcBits j x)) := rfl
          generalize crcBits j x = y at hy HS2
          have ha : bits .and .u32 (y : Int) 1 = ((y % 2 : Nat) : Int) := by
            rw [show (1 : Int) = ((1 : Nat) : Int) from rfl, u32_and_nat y 1 hy (by decide), nat_mask1]
          by_cases hp : y % 2 = 1
          · have ha : bits .and .u32 (y : Int) 1 = 1 := by rw [ha, hp]; rfl
            have hxo : bits .xor .u32 ((y / 2 : Nat) : Int) 3988292384 = (((y / 2) ^^^ 3988292384 : Nat) : Int) := u32_xor_nat (y / 2) 3988292384 (by omega) (by decide)
            have HP := Lib.hid hp
            clear hp
            go_wp2
            refine ⟨⟨j + 1, by go_num, ?_, by omega⟩, by simp [intOf]; omega⟩
            rw [HS2.out, crcBit, if_pos HP.out, ← hxo]; rfl
          · have ha : bits .and .u32 (y : Int) 1 = 0 := by rw [ha, show y % 2 = 0 by omega]; rfl
            have HP := Lib.hid hp
            clear hp
            go_wp2
            refine ⟨⟨j + 1, by go_num, ?_, by omega⟩, by simp [intOf]; omega⟩
            rw [HS2.out, crcBit, if_neg HP.out]; rfl
        · obtain rfl : j = 8 := by omega
          have hfin : crcBits 8 x = crcRaw 4294967295 (l.take (k + 1)) := by rw [HSN.out, ← he.out]; exact congrArg crc8 (by have := hxx; rw [u32_xor_nat c _ hc (by omega)] at this; exact (Int.ofNat.inj this).symm)
          have HF := Lib.hid hfin
          have hlt8 := crcBits_lt 8 hx
          clear hfin hxx
          go_wp2
          exact ⟨⟨k + 1, crcBits 8 x, by go_num, rfl, by omega, hlt8, HF.out⟩, by simp [intOf]; omega⟩
    · obtain rfl : k = l.length := by omega
      have hxx : bits .xor .u32 (c : Int) 4294967295 = ((c ^^^ 4294967295 : Nat) : Int) := u32_xor_nat c 4294967295 hc (by decide)
      have hx : c ^^^ 4294967295 < 4294967296 := Nat.xor_lt_two_pow (n := 32) hc (by decide)
      generalize hq : c ^^^ 4294967295 = q at hxx hx
      have HQ := Lib.hid hq
      clear hq
      go_wp2
      go_ret
      refine ⟨?_, rfl⟩
      have : crc l = q := by rw [← HQ.out, he.out, List.take_of_length_le (Nat.le_refl _)]; rfl
      rw [this]; rfl

def storedE (e : E) : E := { hdr := { e.hdr with method := 0, packed := e.data.length, size := e.data.length, crc := crc e.data }, data := e.data }
set_option maxRecDepth 100000 in
set_option maxHeartbeats 1000000 in
theorem stored_any (e : E) (w : World) (hl : e.data.length ≤ 4611686018427387904) : Calls Tryz.prog 60 #[e.val] w fun r w' => r = .returned (storedE e).val ∧ Below w.heap.size w w' := by
  go_enter Tryz.func60, Tryz.ntmps60
  go_wp2_with ((go_at_call 88; refine (crc_any e.data _ hl).mono ?_; rintro r w1 ⟨rfl, rfl⟩))
  exact bodyPost_cell rfl (w.heap.size + 1) 0 (storedE e).cells rfl (rangeAt_new' _ _ (by simp)) Tryz.underlying38 rfl sizeEnt rfl ⟨rfl, by go_grown⟩
end Go.Proofs.Zip
namespace Go.Proofs.Zip
open Go Go.RowKit
theorem infoEnt : (Tryz.prog.info? 38).map (fun i => (i.zero, i.size, i.bytes)) = some (some (.agg #[.string ⟨#[]⟩, .string ⟨#[]⟩, .string ⟨#[]⟩, .bool false, .int .i64 0, .int .i64 0, .int .i64 0, .int .i64 0, .int .i64 0, .int .i64 0, .int .i64 0, .int .i64 0, .int .i64 0, .int .i64 0, .string ⟨#[]⟩]), 15, 152) := by kernel_rfl
/-- The cells of a list of entries. -/
def rows (es : List E) : List Value := es.flatMap E.cells
theorem length_rows (es : List E) : (rows es).length = es.length * 15 := by
  induction es with
  | nil => rfl
  | cons e es ih => simp only [rows, List.flatMap_cons, List.length_append] at *; rw [ih]; simp; omega
theorem rows_snoc (es : List E) (e : E) : rows (es ++ [e]) = rows es ++ e.cells := by simp [rows]
theorem rows_at (es : List E) (k : Nat) (e : E) (h : es[k]? = some e) : ((rows es).drop (k * 15)).take 15 = e.cells := by
  induction es generalizing k with
  | nil => simp at h
  | cons x es ih =>
    cases k with
    | zero => simp at h; subst h; simp [rows]
    | succ k =>
      have hr : rows (x :: es) = x.cells ++ rows es := by simp [rows]
      rw [hr, show (k + 1) * 15 = 15 + k * 15 by omega, ← List.drop_drop]
      have : List.drop 15 (x.cells ++ rows es) = rows es := by simp
      rw [this]; exact ih k (by simpa using h)
/-- A row of entries that the call owns reads as a list. -/
theorem isList_own {w : World} {base : Nat} {v : Value} {es : List E} {T : TypeId} (h : w.ownsRow base T 15 v es.length (rows es)) : IsList w v es := by
  obtain ⟨_, h⟩ := h
  rcases h with ⟨rfl, h0⟩ | ⟨g, cap, cur, rfl, hg, hh, hc, hm, hsz, htk⟩
  · exact ⟨none, 0, by rw [h0], fun hne => absurd (List.eq_nil_of_length_eq_zero h0) hne⟩
  · refine ⟨_, cap, rfl, fun hne => ⟨g, 0, rfl, (Array.getElem?_eq_some_iff.1 hh).1, fun k e he j v hv => ?_⟩⟩
    have hk : k < es.length := (List.getElem?_eq_some_iff.1 he).1
    have hj : j < 15 := by have := (List.getElem?_eq_some_iff.1 hv).1; simpa using this
    have e1 := rows_at es k e he
    have e2 := congrArg (·[j]?) e1
    simp only [List.getElem?_take, hj, if_true, List.getElem?_drop] at e2
    rw [hv, ← htk] at e2
    unfold World.cell?; simp only []; rw [hh]
    simp only [List.getElem?_take] at e2
    rw [if_pos (by omega)] at e2
    simpa [Nat.add_assoc] using e2

set_option maxRecDepth 100000 in
set_option maxHeartbeats 1000000 in
theorem allStored_any (es : List E) (v : Value) (w : World) (hv : IsList w v es) (hlen : es.length ≤ 2147483647) (hs : ∀ e ∈ es, e.data.length ≤ 4611686018427387904) :
    Calls Tryz.prog 35 #[v] w fun r w' => ∃ u, r = .returned u ∧ w'.ownsRow w.heap.size 38 15 u es.length (rows (es.map storedE)) ∧ Below w.heap.size w w' := by
  have HS := Lib.hid hs
  obtain ⟨a, cap, rfl, hl⟩ := hv
  clear hs
  go_enter Tryz.func35, Tryz.ntmps35
  go_wp2
  go_loopw [3, 9] (fun t3 t9 wr => ∃ k : Nat, t9 = .int .i64 k ∧ k ≤ es.length ∧ wr.ownsRow w.heap.size 38 15 t3 k (rows ((es.take k).map storedE)) ∧ Below w.heap.size w wr) (fun _ t9 _ => es.length - (intOf t9).toNat)
  case atStart => exact ⟨0, rfl, Nat.zero_le _, ⟨rfl, .inr ⟨_, 0, _, rfl, Nat.le_refl _, heap_alloc_last _ _, Nat.le_refl _, by decide, rfl, rfl⟩⟩, (Below.refl _ _).alloc (Nat.le_refl _) _⟩
  case round =>
    obtain ⟨k, rfl, hk, hown, hb⟩ := hrel
    by_cases hlt : k < es.length
    · obtain ⟨b, off, rfl, hblt, hr⟩ := hl (fun e => by simp [e] at hlt)
      have hr := rangeAt_below hb (hr k es[k] (List.getElem?_eq_getElem hlt)) hblt
      have hn := HS.out es[k] (List.getElem_mem hlt)
      have hsz := hb.size
      have hsn : rows ((es.take (k + 1)).map storedE) = rows ((es.take k).map storedE) ++ (storedE es[k]).cells := by
        rw [List.take_succ_eq_append_getElem hlt, List.map_append]; exact rows_snoc _ _
      generalize es[k] = e at hr hn hsn
      have HSN := Lib.hid hsn
      clear hsn
      go_wp2_with (first
          | (refine wpList_load_mid rfl 38 _ rfl b (off + k * 15) rfl e.cells _ hr Tryz.underlying38 rfl sizeEnt ?_)
          | (refine wpList_alloc_store 38 _ _ e.cells rfl rfl rfl rfl rfl rfl sizesEnt rfl ?_)
          | (refine wpList_load_mid rfl 38 _ rfl wr.heap.size 0 rfl e.cells _ (rangeAt_new _ _ _) Tryz.underlying38 rfl sizeEnt ?_)
          | (go_at_call 60; refine (stored_any e _ hn).mono ?_; rintro r w1 ⟨rfl, hb1⟩; have hown1 := ownsRow_below (hown.alloc _) hb1; have hbw := below_up (hb.alloc hb.size _) hb1; clear hown)
          | (at_builtin; refine wpList_app1 (news := (storedE e).cells) rfl _ _ 22 rfl w.heap.size Tryz.underlying22 infoEnt rfl (by decide) _ _ _ rfl hown1 rfl rfl ?c1 ?c2 (by decide) hbw (Nat.le_refl _) hbw.size ?_))
      case c1 => simp [Value.oneCell']
      case c2 => omega
      intro v' w' hown' hb' _
      go_wp2
      exact ⟨⟨k + 1, by go_num, by omega, by rw [HSN.out, List.map_take]; exact hown', hb'⟩, by simp [intOf]; omega⟩
    · obtain rfl : k = es.length := by omega
      go_wp2
      go_ret
      exact ⟨_, rfl, by rw [List.take_of_length_le (Nat.le_refl _)] at hown; exact hown, hb⟩

def turnedL (l : List UInt8) (at_ : Nat) (by_ : Nat) : List UInt8 := l.take at_ ++ (l[at_]?.getD 0 ^^^ UInt8.ofNat by_) :: l.drop (at_ + 1)
end Go.Proofs.Zip
