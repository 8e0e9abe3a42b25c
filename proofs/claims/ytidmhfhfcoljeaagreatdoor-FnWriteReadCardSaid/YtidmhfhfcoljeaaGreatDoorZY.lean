/- A part of a proof over the given program: Wh. Nothing is assumed here. -/
import Derived.Test.YtidmhfhfcoljeaaGreatDoorZX
import Derived.Test.YtidmhfhfcoljeaaGreatDoorZK
import Derived.Test.YtidmhfhfcoljeaaGreatDoorZJ
import Derived.Deep.Cut
namespace Go.Proofs.Zip
open Go Go.RowKit
/-! writeHeader: a file's local header. -/
/-- The cells of a FileHeader; c, u: its sizes of 32 bits. -/
abbrev hdrCells (h : H) (non : Bool) (t0 t1 t2 x : Value) (c u : Int) : Array Value := #[.string (B h.name), .string (B h.comment), .bool non, .int .u16 h.creator, .int .u16 h.reader, .int .u16 h.flags, .int .u16 h.method, t0, t1, t2, .int .u16 h.time, .int .u16 h.date, .int .u32 h.crc, .int .u32 c, .int .u32 u, .int .u64 h.packed, .int .u64 h.size, x, .int .u32 h.ext]
/-- A header that the writer holds at hb, its FileHeader at fh; the output O stands apart from it. -/
structure Hb (w : World) (O : Wr) (ob : Option Nat) (hb fh : Nat) (off : Int) (raw : Bool) (h : H) (non : Bool) (t0 t1 t2 x : Value) (c u : Int) : Prop where
  bh : Blk w hb #[.pointer (some ⟨fh, 0, none⟩), .int .u64 off, .bool raw] 153
  bf : Blk w fh (hdrCells h non t0 t1 t2 x c u) 78
  bx : IsBytes w x h.extra
  s1 : ¬ O.all ob hb
  s2 : ¬ O.all ob fh
  s3 : ∀ d, x.ownBlock = some d → ¬ O.all ob d
  ok : HOk h
theorem Wr.all_next {O : Wr} {a b : Option Nat} {n i : Nat} (h : obNext a b n) (hi : i < n) (hn : ¬ O.all a i) : ¬ O.all b i := by
  rintro ((h1 | h1 | h1 | h1) | h1)
  · exact hn (.inl (.inl h1))
  · exact hn (.inl (.inr (.inl h1)))
  · exact hn (.inl (.inr (.inr (.inl h1))))
  · rcases h with rfl | ⟨x, rfl, hx⟩
    · exact hn (.inl (.inr (.inr (.inr h1))))
    · cases h1; omega
  · exact hn (.inr h1)
theorem IsBytes.lt {w : World} {x : Value} {l : List UInt8} (h : IsBytes w x l) : ∀ d, x.ownBlock = some d → d < w.heap.size := by
  intro d hd
  rcases h with ⟨rfl, _⟩ | ⟨d', o, cap, rfl, h1, _⟩
  · cases hd
  · cases hd; exact h1
/-- Behind writes, and behind memory that was made. -/
theorem Hb.next {w w' : World} {O : Wr} {ob ob' : Option Nat} {hb fh : Nat} {off : Int} {raw : Bool} {h : H} {non : Bool} {t0 t1 t2 x : Value} {c u : Int} (k : Hb w O ob hb fh off raw h non t0 t1 t2 x c u) (hf : Fr (O.all ob) w w') (hn : obNext ob ob' w.heap.size) : Hb w' O ob' hb fh off raw h non t0 t1 t2 x c u :=
  ⟨hf.blk k.bh k.s1, hf.blk k.bf k.s2, k.bx.fr hf k.s3, Wr.all_next hn k.bh.lt k.s1, Wr.all_next hn k.bf.lt k.s2, fun d hd => Wr.all_next hn (k.bx.lt d hd) (k.s3 d hd), k.ok⟩
theorem Hb.below {w w' : World} {O : Wr} {ob : Option Nat} {hb fh : Nat} {off : Int} {raw : Bool} {h : H} {non : Bool} {t0 t1 t2 x : Value} {c u : Int} (k : Hb w O ob hb fh off raw h non t0 t1 t2 x c u) (hf : Below w.heap.size w w') : Hb w' O ob hb fh off raw h non t0 t1 t2 x c u :=
  ⟨below_blk hf k.bh, below_blk hf k.bf, k.bx.fr (Fr.of_below (S := fun _ => False) hf) (fun _ _ => id), k.s1, k.s2, k.s3, k.ok⟩
set_option maxRecDepth 100000 in
theorem dataDescH_any (fh : Nat) (h : H) (non : Bool) (t0 t1 t2 x : Value) (c u : Int) (w : World) (hb : Blk w fh (hdrCells h non t0 t1 t2 x c u) 78) :
    Calls Tryz.prog 83 #[.pointer (some ⟨fh, 0, none⟩)] w fun e w' => e = .returned (.bool (bits .and .u16 h.flags 8 != 0)) ∧ w = w' := by
  go_enter Tryz.func83, Tryz.ntmps83
  have c5 : w.cell? ⟨fh, 5, none⟩ = some (.int .u16 h.flags) := hb.cell 5
  go_wp2
  go_ret
  exact ⟨rfl, rfl⟩
theorem WB.u16i {w : World} {v g n : Nat} {P : List UInt8} {t : TypeId} (h : WB w v g n P t) (hvg : v ≠ g) (x : Int) (h0 : 0 ≤ x) (h1 : x ≤ 65535) (hn : P.length + 2 ≤ n) :
    Calls Tryz.prog 74 #[.pointer (some ⟨v, 0, none⟩), .int .u16 x] w fun e w' => e = .returned (.tuple #[]) ∧ WB w' v g n (P ++ leB 2 x) t ∧ Fr (fun b => b = v ∨ b = g) w w' := by
  obtain ⟨m, rfl⟩ := Int.eq_ofNat_of_zero_le h0
  exact h.u16 hvg m (by omega) hn
theorem WB.u32i {w : World} {v g n : Nat} {P : List UInt8} {t : TypeId} (h : WB w v g n P t) (hvg : v ≠ g) (x : Int) (h0 : 0 ≤ x) (h1 : x ≤ 4294967295) (hn : P.length + 4 ≤ n) :
    Calls Tryz.prog 76 #[.pointer (some ⟨v, 0, none⟩), .int .u32 x] w fun e w' => e = .returned (.tuple #[]) ∧ WB w' v g n (P ++ leB 4 x) t ∧ Fr (fun b => b = v ∨ b = g) w w' := by
  obtain ⟨m, rfl⟩ := Int.eq_ofNat_of_zero_le h0
  exact h.u32 hvg m (by omega) hn
set_option maxRecDepth 100000 in
/-- A frame of 252 slots, written out. -/
theorem frame252 (a : Act) (hs : a.tmps.size = 252) (hd : a.defers = []) : ∃ u : Nat → Value, a = ⟨#[u 0, u 1, u 2, u 3, u 4, u 5, u 6, u 7, u 8, u 9, u 10, u 11, u 12, u 13, u 14, u 15, u 16, u 17, u 18, u 19, u 20, u 21, u 22, u 23, u 24, u 25, u 26, u 27, u 28, u 29, u 30, u 31, u 32, u 33, u 34, u 35, u 36, u 37, u 38, u 39, u 40, u 41, u 42, u 43, u 44, u 45, u 46, u 47, u 48, u 49, u 50, u 51, u 52, u 53, u 54, u 55, u 56, u 57, u 58, u 59, u 60, u 61, u 62, u 63, u 64, u 65, u 66, u 67, u 68, u 69, u 70, u 71, u 72, u 73, u 74, u 75, u 76, u 77, u 78, u 79, u 80, u 81, u 82, u 83, u 84, u 85, u 86, u 87, u 88, u 89, u 90, u 91, u 92, u 93, u 94, u 95, u 96, u 97, u 98, u 99, u 100, u 101, u 102, u 103, u 104, u 105, u 106, u 107, u 108, u 109, u 110, u 111, u 112, u 113, u 114, u 115, u 116, u 117, u 118, u 119, u 120, u 121, u 122, u 123, u 124, u 125, u 126, u 127, u 128, u 129, u 130, u 131, u 132, u 133, u 134, u 135, u 136, u 137, u 138, u 139, u 140, u 141, u 142, u 143, u 144, u 145, u 146, u 147, u 148, u 149, u 150, u 151, u 152, u 153, u 154, u 155, u 156, u 157, u 158, u 159, u 160, u 161, u 162, u 163, u 164, u 165, u 166, u 167, u 168, u 169, u 170, u 171, u 172, u 173, u 174, u 175, u 176, u 177, u 178, u 179, u 180, u 181, u 182, u 183, u 184, u 185, u 186, u 187, u 188, u 189, u 190, u 191, u 192, u 193, u 194, u 195, u 196, u 197, u 198, u 199, u 200, u 201, u 202, u 203, u 204, u 205, u 206, u 207, u 208, u 209, u 210, u 211, u 212, u 213, u 214, u 215, u 216, u 217, u 218, u 219, u 220, u 221, u 222, u 223, u 224, u 225, u 226, u 227, u 228, u 229, u 230, u 231, u 232, u 233, u 234, u 235, u 236, u 237, u 238, u 239, u 240, u 241, u 242, u 243, u 244, u 245, u 246, u 247, u 248, u 249, u 250, u 251], []⟩ := by
  obtain ⟨t, d⟩ := a
  simp only at hs hd
  subst hd
  refine ⟨fun i => t.toList.getD i undef, ?_⟩
  have h := list_tab undef t.toList
  have hl : t.toList.length = 252 := by simpa using hs
  rw [hl] at h
  have e : t = (List.map (fun i => t.toList.getD i undef) (List.range 252)).toArray := by
    apply Array.toList_inj.1
    rw [← h]
  generalize (fun i => t.toList.getD i undef) = u at e ⊢
  rw [e]; rfl
/-- The frame of writeHeader between its writes; k: the slot of the last error. -/
def Rwh (k : Nat) (O : Wr) (hb : Nat) (S : World → Prop) (a : Act) (w : World) : Prop := a.tmps.size = 252 ∧ a.defers = [] ∧ a.tmps.getD 0 undef = cwv O ∧ a.tmps.getD 1 undef = .pointer (some ⟨hb, 0, none⟩) ∧ a.tmps.getD 5 undef = .slice none 0 0 ∧ a.tmps.getD k undef = .nilIface ∧ S w
theorem nilAhead_cw (n a : Nat) (w : World) : (nilAhead (n + 1) 126 (.pointer (some ⟨a, 0, none⟩)) "Write").run Tryz.prog w = .ok (some false) w := by kernel_rfl
set_option maxRecDepth 100000 in
set_option maxHeartbeats 8000000 in
/-- With checksum and sizes. -/
theorem writeHeader_any (O : Wr) (hO : O.Ok) (L : List UInt8) (ob : Option Nat) (hb fh : Nat) (off : Int) (h : H) (non : Bool) (t0 t1 t2 x : Value) (c u : Int) (w : World) (hw : OutC w O L ob) (hh : Hb w O ob hb fh off true h non t0 t1 t2 x c u) (hdd : (bits .and .u16 h.flags 8 != 0) = false) (hlen : L.length + 200000 ≤ 140737488355328) (hbase : O.base ≤ w.heap.size) :
    Calls Tryz.prog 79 #[cwv O, .pointer (some ⟨hb, 0, none⟩)] w fun e w' => e = .returned .nilIface ∧ ∃ ob', Hid (OutC w' O (L ++ localL h) ob' ∧ obNext ob ob' w.heap.size ∧ Fr (O.all ob) w w') := by
  obtain ⟨_, ord, ofl, ome, oti, oda, ocr, opa, osi, _, ona, _, oex⟩ := hh.ok
  have hbl := hh.bh.lt
  have fhl := hh.bf.lt
  have xl := hh.bx.lt
  obtain ⟨xa, xn, xc, hxv⟩ : ∃ a n c, x = .slice a n c := by
    rcases hh.bx with ⟨rfl, _⟩ | ⟨d, o, cap, rfl, _⟩
    · exact ⟨_, _, _, rfl⟩
    · exact ⟨_, _, _, rfl⟩
  have hxn : xn = h.extra.length := by
    rcases hh.bx with ⟨e, e2⟩ | ⟨d, o, cap, e, _⟩
    · rw [hxv] at e; cases e; rw [e2]; rfl
    · rw [hxv] at e; cases e; rfl
  subst hxv
  subst hxn
  have a0 : w.cell? ⟨hb, 0, none⟩ = some (.pointer (some ⟨fh, 0, none⟩)) := hh.bh.cell 0
  have a2 : w.cell? ⟨hb, 2, none⟩ = some (.bool true) := hh.bh.cell 2
  have b0 : w.cell? ⟨fh, 0, none⟩ = some (.string (B h.name)) := hh.bf.cell 0
  have b4 : w.cell? ⟨fh, 4, none⟩ = some (.int .u16 h.reader) := hh.bf.cell 4
  have b15 : w.cell? ⟨fh, 15, none⟩ = some (.int .u64 h.packed) := hh.bf.cell 15
  have b16 : w.cell? ⟨fh, 16, none⟩ = some (.int .u64 h.size) := hh.bf.cell 16
  have b17 : w.cell? ⟨fh, 17, none⟩ = some (.slice xa h.extra.length xc) := hh.bf.cell 17
  have q1 : ¬ ((65535 : Int) < h.name.length) := by omega
  have q2 : ¬ ((65535 : Int) < h.extra.length) := by omega
  have q3 : ¬ ((4294967295 : Int) < h.packed) := by omega
  have q4 : ¬ ((4294967295 : Int) < h.size) := by omega
  have HDD := Lib.hid (dataDescH_any fh h non t0 t1 t2 _ c u w hh.bf)
  rw [hdd] at HDD
  clear hdd
  have HW := Lib.hid hw
  have HH := Lib.hid hh
  clear hw hh
  go_enter Tryz.func79, Tryz.ntmps79
  go_upto_region 16 with (go_at_call 83; refine HDD.out.mono ?_; rintro e w1 ⟨rfl, rfl⟩)
  go_wp2_with (refine wpList_alloc_zero rfl 192 rfl 30 (by kernel_rfl) ?_)
  have W0 : Hid (WB ((w.alloc (.cells (zeroA 30) 192)).alloc (.cells #[.slice (some ⟨w.heap.size, 0, none⟩) 30 30] 147)) (w.heap.size + 1) w.heap.size 30 [] 192) := Lib.hid ⟨⟨_, Blk.new' _ _ (by simp), fun _ => rfl⟩, by rw [put_nil]; exact (Blk.new _ _ _).alloc _, by simp⟩
  have G0 : Hid (Below w.heap.size w ((w.alloc (.cells (zeroA 30) 192)).alloc (.cells #[.slice (some ⟨w.heap.size, 0, none⟩) 30 30] 147))) := Lib.hid (((Below.refl w.heap.size w).alloc (Nat.le_refl _) _).alloc (by simp) _)
  have hvg : w.heap.size + 1 ≠ w.heap.size := by omega
  have VG := Lib.hid hvg
  have A0 := Lib.hid a0
  have BF := Lib.hid HH.out.bf
  have rn : IntKind.u16.wrap (h.name.length : Int) = (h.name.length : Int) := by rw [IntKind.wrap_u16]; omega
  have rx : IntKind.u16.wrap (h.extra.length : Int) = (h.extra.length : Int) := by rw [IntKind.wrap_u16]; omega
  clear hvg a0 a2 b0 b4 b15 b16 b17 q1 q2 q3 q4 HDD
  have S0 := Lib.hid (W0.out.u32i VG.out 67324752 (by omega) (by omega) (by simp))
  go_wp2_with fail
  refine S0.out.mono ?_
  rintro e w1 ⟨rfl, hw, hf⟩
  have W1 := Lib.hid hw
  have G1 : Hid (Below w.heap.size w w1) := Lib.hid (G0.out.trans (hf.below G0.out.size (by rintro i hi (e | e) <;> omega)))
  clear hw hf S0 W0 G0
  try clear a0 b1
  have S1 := Lib.hid (W1.out.u16i VG.out h.reader (by omega) (by omega) (by simp))
  go_wp2_with fail
  refine S1.out.mono ?_
  rintro e w2 ⟨rfl, hw, hf⟩
  have W2 := Lib.hid hw
  have G2 : Hid (Below w.heap.size w w2) := Lib.hid (G1.out.trans (hf.below G1.out.size (by rintro i hi (e | e) <;> omega)))
  clear hw hf S1 W1 G1
  try clear a0 b1
  have a0 : w2.cell? ⟨hb, 0, none⟩ = some (.pointer (some ⟨fh, 0, none⟩)) := (G2.out.cell (p := ⟨hb, 0, none⟩) hbl).trans A0.out
  have b1 : w2.cell? ⟨fh, 5, none⟩ = some (.int .u16 h.flags) := (G2.out.cell (p := ⟨fh, 5, none⟩) fhl).trans (BF.out.cell 5)
  have S2 := Lib.hid (W2.out.u16i VG.out h.flags (by omega) (by omega) (by simp))
  go_wp2_with fail
  refine S2.out.mono ?_
  rintro e w3 ⟨rfl, hw, hf⟩
  have W3 := Lib.hid hw
  have G3 : Hid (Below w.heap.size w w3) := Lib.hid (G2.out.trans (hf.below G2.out.size (by rintro i hi (e | e) <;> omega)))
  clear hw hf S2 W2 G2
  try clear a0 b1
  have a0 : w3.cell? ⟨hb, 0, none⟩ = some (.pointer (some ⟨fh, 0, none⟩)) := (G3.out.cell (p := ⟨hb, 0, none⟩) hbl).trans A0.out
  have b1 : w3.cell? ⟨fh, 6, none⟩ = some (.int .u16 h.method) := (G3.out.cell (p := ⟨fh, 6, none⟩) fhl).trans (BF.out.cell 6)
  have S3 := Lib.hid (W3.out.u16i VG.out h.method (by omega) (by omega) (by simp))
  go_wp2_with fail
  refine S3.out.mono ?_
  rintro e w4 ⟨rfl, hw, hf⟩
  have W4 := Lib.hid hw
  have G4 : Hid (Below w.heap.size w w4) := Lib.hid (G3.out.trans (hf.below G3.out.size (by rintro i hi (e | e) <;> omega)))
  clear hw hf S3 W3 G3
  try clear a0 b1
  have a0 : w4.cell? ⟨hb, 0, none⟩ = some (.pointer (some ⟨fh, 0, none⟩)) := (G4.out.cell (p := ⟨hb, 0, none⟩) hbl).trans A0.out
  have b1 : w4.cell? ⟨fh, 10, none⟩ = some (.int .u16 h.time) := (G4.out.cell (p := ⟨fh, 10, none⟩) fhl).trans (BF.out.cell 10)
  have S4 := Lib.hid (W4.out.u16i VG.out h.time (by omega) (by omega) (by simp))
  go_wp2_with fail
  refine S4.out.mono ?_
  rintro e w5 ⟨rfl, hw, hf⟩
  have W5 := Lib.hid hw
  have G5 : Hid (Below w.heap.size w w5) := Lib.hid (G4.out.trans (hf.below G4.out.size (by rintro i hi (e | e) <;> omega)))
  clear hw hf S4 W4 G4
  try clear a0 b1
  have a0 : w5.cell? ⟨hb, 0, none⟩ = some (.pointer (some ⟨fh, 0, none⟩)) := (G5.out.cell (p := ⟨hb, 0, none⟩) hbl).trans A0.out
  have b1 : w5.cell? ⟨fh, 11, none⟩ = some (.int .u16 h.date) := (G5.out.cell (p := ⟨fh, 11, none⟩) fhl).trans (BF.out.cell 11)
  have S5 := Lib.hid (W5.out.u16i VG.out h.date (by omega) (by omega) (by simp))
  go_wp2_with fail
  refine S5.out.mono ?_
  rintro e w6 ⟨rfl, hw, hf⟩
  have W6 := Lib.hid hw
  have G6 : Hid (Below w.heap.size w w6) := Lib.hid (G5.out.trans (hf.below G5.out.size (by rintro i hi (e | e) <;> omega)))
  clear hw hf S5 W5 G5
  try clear a0 b1
  have a0 : w6.cell? ⟨hb, 0, none⟩ = some (.pointer (some ⟨fh, 0, none⟩)) := (G6.out.cell (p := ⟨hb, 0, none⟩) hbl).trans A0.out
  have b1 : w6.cell? ⟨fh, 12, none⟩ = some (.int .u32 h.crc) := (G6.out.cell (p := ⟨fh, 12, none⟩) fhl).trans (BF.out.cell 12)
  have S6 := Lib.hid (W6.out.u32i VG.out h.crc (by omega) (by omega) (by simp))
  go_wp2_with fail
  refine S6.out.mono ?_
  rintro e w7 ⟨rfl, hw, hf⟩
  have W7 := Lib.hid hw
  have G7 : Hid (Below w.heap.size w w7) := Lib.hid (G6.out.trans (hf.below G6.out.size (by rintro i hi (e | e) <;> omega)))
  clear hw hf S6 W6 G6
  try clear a0 b1
  have a0 : w7.cell? ⟨hb, 0, none⟩ = some (.pointer (some ⟨fh, 0, none⟩)) := (G7.out.cell (p := ⟨hb, 0, none⟩) hbl).trans A0.out
  have b1 : w7.cell? ⟨fh, 15, none⟩ = some (.int .u64 h.packed) := (G7.out.cell (p := ⟨fh, 15, none⟩) fhl).trans (BF.out.cell 15)
  have S7 := Lib.hid (W7.out.u32i VG.out h.packed (by omega) (by omega) (by simp))
  go_wp2_with fail
  refine S7.out.mono ?_
  rintro e w8 ⟨rfl, hw, hf⟩
  have W8 := Lib.hid hw
  have G8 : Hid (Below w.heap.size w w8) := Lib.hid (G7.out.trans (hf.below G7.out.size (by rintro i hi (e | e) <;> omega)))
  clear hw hf S7 W7 G7
  try clear a0 b1
  have a0 : w8.cell? ⟨hb, 0, none⟩ = some (.pointer (some ⟨fh, 0, none⟩)) := (G8.out.cell (p := ⟨hb, 0, none⟩) hbl).trans A0.out
  have b1 : w8.cell? ⟨fh, 16, none⟩ = some (.int .u64 h.size) := (G8.out.cell (p := ⟨fh, 16, none⟩) fhl).trans (BF.out.cell 16)
  have S8 := Lib.hid (W8.out.u32i VG.out h.size (by omega) (by omega) (by simp))
  go_wp2_with fail
  refine S8.out.mono ?_
  rintro e w9 ⟨rfl, hw, hf⟩
  have W9 := Lib.hid hw
  have G9 : Hid (Below w.heap.size w w9) := Lib.hid (G8.out.trans (hf.below G8.out.size (by rintro i hi (e | e) <;> omega)))
  clear hw hf S8 W8 G8
  try clear a0 b1
  have a0 : w9.cell? ⟨hb, 0, none⟩ = some (.pointer (some ⟨fh, 0, none⟩)) := (G9.out.cell (p := ⟨hb, 0, none⟩) hbl).trans A0.out
  have b1 : w9.cell? ⟨fh, 0, none⟩ = some (.string (B h.name)) := (G9.out.cell (p := ⟨fh, 0, none⟩) fhl).trans (BF.out.cell 0)
  have S9 := Lib.hid (W9.out.u16i VG.out (h.name.length : Int) (by omega) (by omega) (by simp))
  go_wp2_with fail
  refine S9.out.mono ?_
  rintro e w10 ⟨rfl, hw, hf⟩
  have W10 := Lib.hid hw
  have G10 : Hid (Below w.heap.size w w10) := Lib.hid (G9.out.trans (hf.below G9.out.size (by rintro i hi (e | e) <;> omega)))
  clear hw hf S9 W9 G9
  try clear a0 b1
  have a0 : w10.cell? ⟨hb, 0, none⟩ = some (.pointer (some ⟨fh, 0, none⟩)) := (G10.out.cell (p := ⟨hb, 0, none⟩) hbl).trans A0.out
  have b1 : w10.cell? ⟨fh, 17, none⟩ = some (.slice xa h.extra.length xc) := (G10.out.cell (p := ⟨fh, 17, none⟩) fhl).trans (BF.out.cell 17)
  have S10 := Lib.hid (W10.out.u16i VG.out (h.extra.length : Int) (by omega) (by omega) (by simp))
  go_wp2_with fail
  refine S10.out.mono ?_
  rintro e w11 ⟨rfl, hw, hf⟩
  have W11 := Lib.hid hw
  have G11 : Hid (Below w.heap.size w w11) := Lib.hid (G10.out.trans (hf.below G10.out.size (by rintro i hi (e | e) <;> omega)))
  clear hw hf S10 W10 G10
  have W := W11.out
  obtain ⟨P, hP⟩ : ∃ P, P = ([] ++ leB 4 67324752 ++ leB 2 h.reader ++ leB 2 h.flags ++ leB 2 h.method ++ leB 2 h.time ++ leB 2 h.date ++ leB 4 h.crc ++ leB 4 h.packed ++ leB 4 h.size ++ leB 2 (h.name.length : Int) ++ leB 2 (h.extra.length : Int)) := ⟨_, rfl⟩
  rw [← hP] at W
  have hPl : P.length = 30 := by rw [hP]; simp
  have HLOC : Hid (localL h = P ++ h.name ++ h.extra) := Lib.hid (by
    rw [hP, show leB 4 67324752 = [80, 75, 3, 4] by decide +kernel]
    simp [localL, fieldsL, List.append_assoc])
  have hsz := G11.out.size
  have hna := fun n w => nilAhead_cw n O.cw w
  have hg11 := W.buf.lt
  have HC1 := Lib.hid (cwWrite_still O hO (.slice (some ⟨w.heap.size, 0, none⟩) 30 30) L P ob w11 (HW.out.fr (Fr.of_below (S := fun _ => False) G11.out) (fun _ _ => id)) (.inr ⟨w.heap.size, 0, 30, by rw [hPl], hg11, by omega, W.full hPl⟩) (by
    intro d hd
    have hd2 : w.heap.size = d := Option.some.inj hd
    subst hd2
    rintro ((e | e | e | e) | e)
    · have := HW.out.out.lts.1; omega
    · have := HW.out.out.lts.2.1; omega
    · have := HW.out.out.lts.2.2; omega
    · have := (HW.out.out.obs _ e.symm).2; omega
    · have := HW.out.cw.lt; omega) (by omega) (by omega) 30 hPl)
  have HPL := Lib.hid hPl
  clear hP hPl W W11 hg11
  try clear a0 b1
  go_upto_region 36 with fail
  go_region_with (go_at_call 95; refine (HC1.out _ ?hh).mono ?_; (case hh => exact (Fr.refl _ _).drew); rintro e w12 ⟨rfl, ob1, h12⟩)
  have FR12 : Hid (Fr (O.all ob) w w12) := Lib.hid ((Fr.of_below (S := O.all ob) G11.out).trans h12.out.2.2 (fun _ _ h => h))
  have ON1 : Hid (obNext ob ob1 w.heap.size) := Lib.hid (by
    rcases h12.out.2.1 with h | ⟨y, h, h4⟩
    · exact .inl h
    · exact .inr ⟨y, h, by omega⟩)
  have OC1 := Lib.hid h12.out.1
  have a0 : w12.cell? ⟨hb, 0, none⟩ = some (.pointer (some ⟨fh, 0, none⟩)) := (FR12.out.cell hbl HH.out.s1).trans A0.out
  have b1 : w12.cell? ⟨fh, 0, none⟩ = some (.string (B h.name)) := (FR12.out.cell fhl HH.out.s2).trans (BF.out.cell 0)
  have hcv := fun w => run_bytes h.name w
  clear h12 HC1
  go_upto_region 39 with fail
  have HC2 := Lib.hid (cwBytes_any O hO (L ++ P) h.name ob1 w12 OC1.out (by rw [List.length_append, HPL.out]; omega) (Nat.le_trans hbase FR12.out.size) w12.drew (Fr.refl _ _).drew)
  refine wp_cut (Rwh 14 O hb (fun wx => ∃ ob2, Hid (OutC wx O (L ++ P ++ h.name) ob2 ∧ obNext ob ob2 w.heap.size ∧ Fr (O.all ob) w wx))) ?rest ?first
  case first =>
    intro J K hJ hK
    as_aux_lemma =>
      go_region_with (go_at_call 95; refine HC2.out.mono ?_; rintro e w13 ⟨rfl, ob2, h13⟩)
      all_goals refine hK _ _ (Met.intro (hJ _ _ ?_))
      all_goals go_simp
      all_goals
        have hq := And.intro h13.out.1 (And.intro (ON1.out.trans h13.out.2.1 FR12.out.size) (FR12.out.alls h13.out.2.2 ON1.out))
        simp only [List.append_assoc] at hq
        exact ⟨rfl, rfl, rfl, rfl, rfl, rfl, ob2, Lib.hid hq⟩
  case rest =>
    intro a' w13 hR
    obtain ⟨hr1, hr2, r0, r1, r5, r14, ob2, h13⟩ := hR
    obtain ⟨u, rfl⟩ := frame252 a' hr1 hr2
    have u0 : u 0 = cwv O := r0
    have u1 : u 1 = .pointer (some ⟨hb, 0, none⟩) := r1
    have u5 : u 5 = .slice none 0 0 := r5
    have u14 : u 14 = .nilIface := r14
    rw [u0, u1, u5, u14]
    clear hr1 hr2 r0 r1 r5 r14 u0 u1 u5 u14
    have FR13 := Lib.hid h13.out.2.2
    have ON2 := Lib.hid h13.out.2.1
    have OC2 := Lib.hid h13.out.1
    clear a0 b1 hcv h13 HC2 OC1 FR12 ON1
    have a0 : w13.cell? ⟨hb, 0, none⟩ = some (.pointer (some ⟨fh, 0, none⟩)) := (FR13.out.cell hbl HH.out.s1).trans A0.out
    have b1 : w13.cell? ⟨fh, 17, none⟩ = some (.slice xa h.extra.length xc) := (FR13.out.cell fhl HH.out.s2).trans (BF.out.cell 17)
    have HX := HH.out.bx.fr FR13.out HH.out.s3
    have HC3 := Lib.hid (cwWrite_still O hO _ (L ++ P ++ h.name) h.extra ob2 w13 OC2.out HX (fun d hd => Wr.all_next ON2.out (xl d hd) (HH.out.s3 d hd)) (by rw [List.length_append, List.length_append, HPL.out]; omega) (Nat.le_trans hbase FR13.out.size) _ rfl)
    have hxf : xa = none ∨ ∃ d o, xa = some ⟨d, o, none⟩ := by
      rcases HH.out.bx with ⟨e, _⟩ | ⟨d, o, cap, e, _⟩
      · simp only [Value.slice.injEq] at e
        exact .inl e.1
      · simp only [Value.slice.injEq] at e
        exact .inr ⟨d, o, e.1⟩
    clear HX
    go_upto_region 42 with fail
    refine wp_cut (Rwh 16 O hb (fun wx => ∃ ob3, Hid (OutC wx O (L ++ P ++ h.name ++ h.extra) ob3 ∧ obNext ob ob3 w.heap.size ∧ Fr (O.all ob) w wx))) ?rest2 ?first2
    case first2 =>
      intro J K hJ hK
      rcases hxf with rfl | ⟨xd, xo, rfl⟩
      · as_aux_lemma =>
          go_region_with (go_at_call 95; refine (HC3.out _ ?hh).mono ?_; (case hh => exact (Fr.refl _ _).drew); rintro e w14 ⟨rfl, ob3, h14⟩)
          all_goals refine hK _ _ (Met.intro (hJ _ _ ?_))
          all_goals go_simp
          all_goals
            have hq := And.intro h14.out.1 (And.intro (ON2.out.trans h14.out.2.1 FR13.out.size) (FR13.out.alls h14.out.2.2 ON2.out))
            simp only [List.append_assoc] at hq
            exact ⟨rfl, rfl, rfl, rfl, rfl, rfl, ob3, Lib.hid hq⟩
      · as_aux_lemma =>
          go_region_with (go_at_call 95; refine (HC3.out _ ?hh).mono ?_; (case hh => exact (Fr.refl _ _).drew); rintro e w14 ⟨rfl, ob3, h14⟩)
          all_goals refine hK _ _ (Met.intro (hJ _ _ ?_))
          all_goals go_simp
          all_goals
            have hq := And.intro h14.out.1 (And.intro (ON2.out.trans h14.out.2.1 FR13.out.size) (FR13.out.alls h14.out.2.2 ON2.out))
            simp only [List.append_assoc] at hq
            exact ⟨rfl, rfl, rfl, rfl, rfl, rfl, ob3, Lib.hid hq⟩
    case rest2 =>
      intro a' w14 hR
      obtain ⟨hr1, hr2, r0, r1, r5, r16, ob3, h14⟩ := hR
      obtain ⟨u, rfl⟩ := frame252 a' hr1 hr2
      have u0 : u 0 = cwv O := r0
      have u1 : u 1 = .pointer (some ⟨hb, 0, none⟩) := r1
      have u5 : u 5 = .slice none 0 0 := r5
      have u16 : u 16 = .nilIface := r16
      rw [u0, u1, u5, u16]
      clear hr1 hr2 r0 r1 r5 r16 u0 u1 u5 u16
      have FR14 := Lib.hid h14.out.2.2
      have ON3 := Lib.hid h14.out.2.1
      have OC3 := Lib.hid h14.out.1
      clear a0 b1 h14 HC3 OC2 FR13 ON2
      have HC4 := Lib.hid (cwWrite_any O hO (.slice none 0 0) (L ++ P ++ h.name ++ h.extra) [] ob3 w14 OC3.out (.inl ⟨rfl, rfl⟩) (fun d hd => by cases hd) (by simp only [List.length_append, HPL.out, List.length_nil]; omega) (Nat.le_trans hbase FR14.out.size))
      go_wp2_with fail
      refine HC4.out.mono ?_
      rintro e w15 ⟨rfl, ob4, h15⟩
      have FIN : Hid (OutC w15 O (L ++ localL h) ob4 ∧ obNext ob ob4 w.heap.size ∧ Fr (O.all ob) w w15) := Lib.hid ⟨by
        have := h15.out.1
        rw [HLOC.out]
        simpa [List.append_assoc] using this, ON3.out.trans h15.out.2.1 FR14.out.size, FR14.out.alls h15.out.2.2 ON3.out⟩
      clear h15 HC4 OC3 FR14 ON3
      go_wp2
      go_ret
      exact ⟨rfl, ob4, FIN⟩
end Go.Proofs.Zip
