/- A part of a proof over the given program: ScB. Nothing is assumed here. -/
import Derived.Test.YtidmhfhfcoljeaaGreatDoorZSa
namespace Go.Proofs.Zip
open Go Go.RowKit
/-! spec.central. -/
set_option maxRecDepth 100000 in
theorem cen1_any (S : List UInt8) (a p q b2 b3 : Nat) (w : World) (c2 : w.cell? ⟨b2, 0, none⟩ = some (.string (B S))) (c3 : w.cell? ⟨b3, 0, none⟩ = some (.int .i64 a)) (hpq : p ≤ q) (hq : q ≤ p + 4) (hlen : a + q ≤ S.length) (hS : S.length ≤ 4611686018427387904) :
    Calls Tryz.prog 80 #[.int .i64 p, .int .i64 q, .pointer (some ⟨b2, 0, none⟩), .pointer (some ⟨b3, 0, none⟩)] w fun e w' => e = .returned (.int .i64 (leN ((S.drop (a + p)).take (q - p)))) ∧ w = w' := by
  go_enter Tryz.func80, Tryz.ntmps80
  have hN := Lib.hid (number_any ((S.drop (a + p)).take (a + q - (a + p))) w (by rw [List.length_take]; omega))
  have HQ : Hid (a + q - (a + p) = q - p) := Lib.hid (by omega)
  have h1 : ((a : Int) + (q : Int)) ≤ (S.length : Int) := by omega
  have h2 : ((a : Int) + (p : Int)) ≤ (a : Int) + (q : Int) := by omega
  go_wp2_with fail
  refine hN.out.mono ?_
  rintro e y ⟨rfl, rfl⟩
  go_wp2
  go_ret
  exact ⟨by rw [← HQ.out]; rfl, rfl⟩
/-- A number of the 46 bytes. -/
theorem cen_num {S : List UInt8} {a : Nat} {L R : List UInt8} (hS : S.drop a = L ++ R) (p n : Nat) (hp : p + n ≤ L.length) : (S.drop (a + p)).take n = (L.drop p).take n := by
  rw [← List.drop_drop, hS, List.drop_append_of_le_length (by omega), List.take_append_of_le_length (by rw [List.length_drop]; omega)]
theorem results_cell_tmp2 {P : Program} {fn : Func} {p u v : Tmp} {ty : TypeId} (h : fn.results = #[.cell p ty, .tmp u, .tmp v]) (tmps : Array Value) (w : World) (g : Nat) (t : TypeId) (cs : Array Value) (fr : Nat × Nat) (d : TypeDesc)
    (hp : tmps.getD p undef = .pointer (some ⟨g, 0, none⟩)) (hg : w.heap[g]? = some (.cells cs t fr))
    (hu : P.underlying ty = some d) (hd : (match d with | .struct _ | .array _ _ => true | _ => false) = true) (hi : (P.info? ty).map (·.size) = some cs.size) :
    (results fn tmps).run P w = .ok (.tuple #[.agg cs, tmps.getD u undef, tmps.getD v undef]) w := by
  have hp' : tmps[p]?.getD undef = .pointer (some ⟨g, 0, none⟩) := by simpa using hp
  simp [results, h, hp', asAddr, run_loadVar_row w g t ty cs fr d hg hu hd hi]
/-- What stands behind the last statement of spec.central. -/
def Rcen (w : World) (a : Nat) (h : H) (off : Nat) : Exit → Act → World → Prop
  | .normal, A, W => A.defers = [] ∧ A.tmps.getD 4 undef = .pointer (some ⟨w.heap.size + 1 + 1, 0, none⟩) ∧ A.tmps.getD 5 undef = .int .i64 ((a : Int) + 46 + h.name.length + h.extra.length + h.comment.length) ∧ A.tmps.getD 6 undef = .bool true ∧
    (Blk W (w.heap.size + 1 + 1) (Array.mk [.string (B h.name), .string (B h.comment), .string (B h.extra), .bool false, .int .i64 h.creator, .int .i64 h.reader, .int .i64 h.flags, .int .i64 h.method, .int .i64 h.time, .int .i64 h.date, .int .i64 h.crc, .int .i64 h.packed, .int .i64 h.size, .int .i64 h.ext, .int .i64 off, .string ⟨#[]⟩]) 50 ∧ Below w.heap.size w W)
  | _, _, _ => False
set_option maxRecDepth 100000 in
set_option maxHeartbeats 60000000 in
theorem cenScan_any (S : List UInt8) (a : Nat) (h : H) (off : Nat) (R : List UInt8) (w : World) (hS : S.drop a = centralL h off ++ R) (hk : HOk h) (hoff : off ≤ 4294967294) (hlen : S.length ≤ 1152921504606846976) :
    Calls Tryz.prog 48 #[.string (B S), .int .i64 a] w fun e w' => e = .returned (.tuple #[.agg (recCells (scanH h) off []).toArray, .int .i64 (a + (46 + h.name.length + h.extra.length + h.comment.length) : Nat), .bool true]) ∧ Below w.heap.size w w' := by
  have hB := HBytes.of h off hk (by omega) (by omega)
  have hS' : S.drop a = hdr46 h off ++ ((h.name ++ h.extra ++ h.comment) ++ R) := by rw [hS, central_split, List.append_assoc]
  have hl46 := hdr46_len h off
  have hal : a + (46 + h.name.length + h.extra.length + h.comment.length) ≤ S.length := by
    have h1 := congrArg List.length hS
    rw [List.length_drop, List.length_append, length_centralL] at h1
    omega
  have hsig : atB S a [80, 75, 1, 2] = true := by
    unfold atB
    have h1 : a + [(80 : UInt8), 75, 1, 2].length ≤ S.length := by simp; omega
    rw [decide_eq_true h1, Bool.true_and, hS]
    simp [centralL]
  have HA := Lib.hid (fun w' => at_any S [80, 75, 1, 2] a w' (by omega) (by omega) (by simp))
  have HSIG := Lib.hid hsig
  have h46 : ¬ ((S.length : Int) < (a : Int) + 46) := by omega
  clear hS hsig
  go_enter Tryz.func48, Tryz.ntmps48
  go_upto_region 3 with (first | (go_at_call 46; refine (HA.out _).mono ?_; rintro e y ⟨rfl, rfl⟩; rw [HSIG.out]))
  go_upto_region 4 with fail
  obtain ⟨W0, hW0⟩ : ∃ W0, W0 = ((w.alloc (.cells #[.string (B S)] 9)).alloc (.cells #[.int .i64 a] 3)).alloc (.cells #[.string ⟨#[]⟩, .string ⟨#[]⟩, .string ⟨#[]⟩, .bool false, .int .i64 0, .int .i64 0, .int .i64 0, .int .i64 0, .int .i64 0, .int .i64 0, .int .i64 0, .int .i64 0, .int .i64 0, .int .i64 0, .int .i64 0, .string ⟨#[]⟩] 50) := ⟨_, rfl⟩
  have X2 : Blk W0 w.heap.size #[.string (B S)] 9 := by rw [hW0]; exact ((Blk.new _ _ _).alloc _).alloc _
  have X3 : Blk W0 (w.heap.size + 1) #[.int .i64 a] 3 := by rw [hW0]; exact (Blk.new' _ _ (by simp)).alloc _
  have X4 : Blk W0 (w.heap.size + 1 + 1) #[.string ⟨#[]⟩, .string ⟨#[]⟩, .string ⟨#[]⟩, .bool false, .int .i64 0, .int .i64 0, .int .i64 0, .int .i64 0, .int .i64 0, .int .i64 0, .int .i64 0, .int .i64 0, .int .i64 0, .int .i64 0, .int .i64 0, .string ⟨#[]⟩] 50 := by rw [hW0]; exact Blk.new' _ _ (by simp)
  have XB : Below w.heap.size w W0 := by rw [hW0]; exact (((Below.refl _ w).alloc (Nat.le_refl _) _).alloc (by simp) _).alloc (by simp; omega) _
  have XS : W0.heap.size = w.heap.size + 3 := by rw [hW0]; simp
  have BX := Lib.hid (And.intro X2 (And.intro X3 (And.intro X4 (And.intro XB XS))))
  have c2 : W0.cell? ⟨w.heap.size, 0, none⟩ = some (.string (B S)) := X2.cell 0
  have c3 : W0.cell? ⟨w.heap.size + 1, 0, none⟩ = some (.int .i64 a) := X3.cell 0
  have key : ∀ W, W.cell? ⟨w.heap.size, 0, none⟩ = some (.string (B S)) → W.cell? ⟨w.heap.size + 1, 0, none⟩ = some (.int .i64 a) → ∀ (p q n : Nat) (v : Int), q = p + n → n ≤ 4 → p + n ≤ 46 → ((leN (((hdr46 h off).drop p).take n) : Nat) : Int) = v → Calls Tryz.prog 80 #[.int .i64 p, .int .i64 q, .pointer (some ⟨w.heap.size, 0, none⟩), .pointer (some ⟨w.heap.size + 1, 0, none⟩)] W fun e w' => e = .returned (.int .i64 v) ∧ W = w' := by
    rintro W c2 c3 p q n v rfl h4 hp hv
    refine (cen1_any S a p (p + n) w.heap.size (w.heap.size + 1) W c2 c3 (by omega) (by omega) (by omega) (by omega)).mono ?_
    rintro e y ⟨rfl, rfl⟩
    refine ⟨?_, rfl⟩
    rw [show p + n - p = n by omega, cen_num hS' p n (by rw [hl46]; exact hp), hv]
  have D28 : Hid (Calls Tryz.prog 80 #[.int .i64 28, .int .i64 30, .pointer (some ⟨w.heap.size, 0, none⟩), .pointer (some ⟨w.heap.size + 1, 0, none⟩)] W0 fun e w' => e = .returned (.int .i64 (h.name.length : Int)) ∧ W0 = w') := Lib.hid (key W0 c2 c3 28 30 2 _ rfl (by decide) (by decide) hB.f28)
  have D30 : Hid (Calls Tryz.prog 80 #[.int .i64 30, .int .i64 32, .pointer (some ⟨w.heap.size, 0, none⟩), .pointer (some ⟨w.heap.size + 1, 0, none⟩)] W0 fun e w' => e = .returned (.int .i64 (h.extra.length : Int)) ∧ W0 = w') := Lib.hid (key W0 c2 c3 30 32 2 _ rfl (by decide) (by decide) hB.f30)
  have D32 : Hid (Calls Tryz.prog 80 #[.int .i64 32, .int .i64 34, .pointer (some ⟨w.heap.size, 0, none⟩), .pointer (some ⟨w.heap.size + 1, 0, none⟩)] W0 fun e w' => e = .returned (.int .i64 (h.comment.length : Int)) ∧ W0 = w') := Lib.hid (key W0 c2 c3 32 34 2 _ rfl (by decide) (by decide) hB.f32)
  have D4 : Hid (Calls Tryz.prog 80 #[.int .i64 4, .int .i64 6, .pointer (some ⟨w.heap.size, 0, none⟩), .pointer (some ⟨w.heap.size + 1, 0, none⟩)] W0 fun e w' => e = .returned (.int .i64 h.creator) ∧ W0 = w') := Lib.hid (key W0 c2 c3 4 6 2 _ rfl (by decide) (by decide) hB.f4)
  have D6 : Hid (Calls Tryz.prog 80 #[.int .i64 6, .int .i64 8, .pointer (some ⟨w.heap.size, 0, none⟩), .pointer (some ⟨w.heap.size + 1, 0, none⟩)] W0 fun e w' => e = .returned (.int .i64 h.reader) ∧ W0 = w') := Lib.hid (key W0 c2 c3 6 8 2 _ rfl (by decide) (by decide) hB.f6)
  have D8 : Hid (Calls Tryz.prog 80 #[.int .i64 8, .int .i64 10, .pointer (some ⟨w.heap.size, 0, none⟩), .pointer (some ⟨w.heap.size + 1, 0, none⟩)] W0 fun e w' => e = .returned (.int .i64 h.flags) ∧ W0 = w') := Lib.hid (key W0 c2 c3 8 10 2 _ rfl (by decide) (by decide) hB.f8)
  have D10 : Hid (Calls Tryz.prog 80 #[.int .i64 10, .int .i64 12, .pointer (some ⟨w.heap.size, 0, none⟩), .pointer (some ⟨w.heap.size + 1, 0, none⟩)] W0 fun e w' => e = .returned (.int .i64 h.method) ∧ W0 = w') := Lib.hid (key W0 c2 c3 10 12 2 _ rfl (by decide) (by decide) hB.f10)
  have D12 : Hid (Calls Tryz.prog 80 #[.int .i64 12, .int .i64 14, .pointer (some ⟨w.heap.size, 0, none⟩), .pointer (some ⟨w.heap.size + 1, 0, none⟩)] W0 fun e w' => e = .returned (.int .i64 h.time) ∧ W0 = w') := Lib.hid (key W0 c2 c3 12 14 2 _ rfl (by decide) (by decide) hB.f12)
  have D14 : Hid (Calls Tryz.prog 80 #[.int .i64 14, .int .i64 16, .pointer (some ⟨w.heap.size, 0, none⟩), .pointer (some ⟨w.heap.size + 1, 0, none⟩)] W0 fun e w' => e = .returned (.int .i64 h.date) ∧ W0 = w') := Lib.hid (key W0 c2 c3 14 16 2 _ rfl (by decide) (by decide) hB.f14)
  have D16 : Hid (Calls Tryz.prog 80 #[.int .i64 16, .int .i64 20, .pointer (some ⟨w.heap.size, 0, none⟩), .pointer (some ⟨w.heap.size + 1, 0, none⟩)] W0 fun e w' => e = .returned (.int .i64 h.crc) ∧ W0 = w') := Lib.hid (key W0 c2 c3 16 20 4 _ rfl (by decide) (by decide) hB.f16)
  have D20 : Hid (Calls Tryz.prog 80 #[.int .i64 20, .int .i64 24, .pointer (some ⟨w.heap.size, 0, none⟩), .pointer (some ⟨w.heap.size + 1, 0, none⟩)] W0 fun e w' => e = .returned (.int .i64 h.packed) ∧ W0 = w') := Lib.hid (key W0 c2 c3 20 24 4 _ rfl (by decide) (by decide) hB.f20)
  have D24 : Hid (Calls Tryz.prog 80 #[.int .i64 24, .int .i64 28, .pointer (some ⟨w.heap.size, 0, none⟩), .pointer (some ⟨w.heap.size + 1, 0, none⟩)] W0 fun e w' => e = .returned (.int .i64 h.size) ∧ W0 = w') := Lib.hid (key W0 c2 c3 24 28 4 _ rfl (by decide) (by decide) hB.f24)
  have D38 : Hid (Calls Tryz.prog 80 #[.int .i64 38, .int .i64 42, .pointer (some ⟨w.heap.size, 0, none⟩), .pointer (some ⟨w.heap.size + 1, 0, none⟩)] W0 fun e w' => e = .returned (.int .i64 h.ext) ∧ W0 = w') := Lib.hid (key W0 c2 c3 38 42 4 _ rfl (by decide) (by decide) hB.f38)
  have KEY := Lib.hid key
  have HB := Lib.hid hB
  rw [← hW0]
  clear hW0 X2 X3 X4 XB XS key HA HSIG h46 hB
  go_wp2_with fail
  refine D28.out.mono ?_
  rintro e y ⟨rfl, rfl⟩
  go_wp2_with fail
  refine D30.out.mono ?_
  rintro e y ⟨rfl, rfl⟩
  go_wp2_with fail
  refine D32.out.mono ?_
  rintro e y ⟨rfl, rfl⟩
  have hk1 := hk.name
  have hk2 := hk.extra
  have hk3 := hk.comment
  have h47 : ¬ ((S.length : Int) < (a : Int) + 46 + (h.name.length : Int) + (h.extra.length : Int) + (h.comment.length : Int)) := by omega
  go_wp2_with fail
  refine D4.out.mono ?_
  rintro e y ⟨rfl, rfl⟩
  go_wp2_with fail
  refine D6.out.mono ?_
  rintro e y ⟨rfl, rfl⟩
  go_wp2_with fail
  refine D8.out.mono ?_
  rintro e y ⟨rfl, rfl⟩
  go_wp2_with fail
  refine D10.out.mono ?_
  rintro e y ⟨rfl, rfl⟩
  go_wp2_with fail
  refine D12.out.mono ?_
  rintro e y ⟨rfl, rfl⟩
  go_wp2_with fail
  refine D14.out.mono ?_
  rintro e y ⟨rfl, rfl⟩
  go_wp2_with fail
  refine D16.out.mono ?_
  rintro e y ⟨rfl, rfl⟩
  go_wp2_with fail
  refine D20.out.mono ?_
  rintro e y ⟨rfl, rfl⟩
  go_wp2_with fail
  refine D24.out.mono ?_
  rintro e y ⟨rfl, rfl⟩
  go_wp2_with fail
  refine D38.out.mono ?_
  rintro e y ⟨rfl, rfl⟩
  go_upto_region 8 with (first | (refine wpList_alloc_store 36 _ _ (H.cells { name := [], comment := [], extra := [], non := false, creator := h.creator, reader := h.reader, flags := h.flags, method := h.method, time := h.time, date := h.date, crc := h.crc, packed := h.packed, size := h.size, ext := h.ext }) rfl rfl rfl rfl rfl rfl (by kernel_rfl) rfl ?_))
  clear D28 D30 D32 D4 D6 D8 D10 D12 D14 D16 D20 D24 D38
  obtain ⟨W1, hW1⟩ : ∃ W1, W1 = W0.alloc (.cells (H.cells { name := [], comment := [], extra := [], non := false, creator := h.creator, reader := h.reader, flags := h.flags, method := h.method, time := h.time, date := h.date, crc := h.crc, packed := h.packed, size := h.size, ext := h.ext }).toArray 36) := ⟨_, rfl⟩
  have Y1 : Hid (Blk W1 w.heap.size #[.string (B S)] 9 ∧ Blk W1 (w.heap.size + 1) #[.int .i64 a] 3 ∧ Blk W1 (w.heap.size + 1 + 1) #[.string ⟨#[]⟩, .string ⟨#[]⟩, .string ⟨#[]⟩, .bool false, .int .i64 0, .int .i64 0, .int .i64 0, .int .i64 0, .int .i64 0, .int .i64 0, .int .i64 0, .int .i64 0, .int .i64 0, .int .i64 0, .int .i64 0, .string ⟨#[]⟩] 50 ∧ Blk W1 W0.heap.size #[.string (B []), .string (B []), .string (B []), .bool false, .int .i64 h.creator, .int .i64 h.reader, .int .i64 h.flags, .int .i64 h.method, .int .i64 h.time, .int .i64 h.date, .int .i64 h.crc, .int .i64 h.packed, .int .i64 h.size, .int .i64 h.ext] 36 ∧ Below w.heap.size w W1) := Lib.hid (by
    obtain ⟨X2, X3, X4, XB, XS⟩ := BX.out
    rw [hW1]
    exact ⟨X2.alloc _, X3.alloc _, X4.alloc _, Blk.new _ _ _, XB.alloc (by omega) _⟩)
  rw [← hW1]
  clear hW1
  have HXS := Lib.hid BX.out.2.2.2.2
  generalize W0.heap.size = hd at Y1 HXS ⊢
  clear BX c2 c3 W0
  have c2 : W1.cell? ⟨w.heap.size, 0, none⟩ = some (.string (B S)) := Y1.out.1.cell 0
  have c3 : W1.cell? ⟨w.heap.size + 1, 0, none⟩ = some (.int .i64 a) := Y1.out.2.1.cell 0
  have k81 : W1.cell? ⟨hd, 0, none⟩ = some (.string (B [])) := Y1.out.2.2.2.1.cell 0
  have k82 : W1.frozen? ⟨hd, 0, none⟩ = false := Y1.out.2.2.2.1.frozen 0
  have h81 : (a : Int) + 46 + (h.name.length : Int) ≤ (S.length : Int) := by omega
  have h82 : (a : Int) + 46 ≤ (a : Int) + 46 + (h.name.length : Int) := by omega
  go_upto_region 9 with fail
  have Y2 : Hid (Blk (W1.setCell ⟨hd, 0, none⟩ (.string (B (List.take h.name.length (List.drop (a + 46) S))))) w.heap.size #[.string (B S)] 9 ∧ Blk (W1.setCell ⟨hd, 0, none⟩ (.string (B (List.take h.name.length (List.drop (a + 46) S))))) (w.heap.size + 1) #[.int .i64 a] 3 ∧ Blk (W1.setCell ⟨hd, 0, none⟩ (.string (B (List.take h.name.length (List.drop (a + 46) S))))) (w.heap.size + 1 + 1) #[.string ⟨#[]⟩, .string ⟨#[]⟩, .string ⟨#[]⟩, .bool false, .int .i64 0, .int .i64 0, .int .i64 0, .int .i64 0, .int .i64 0, .int .i64 0, .int .i64 0, .int .i64 0, .int .i64 0, .int .i64 0, .int .i64 0, .string ⟨#[]⟩] 50 ∧ Blk (W1.setCell ⟨hd, 0, none⟩ (.string (B (List.take h.name.length (List.drop (a + 46) S))))) hd #[.string (B (List.take h.name.length (List.drop (a + 46) S))), .string (B []), .string (B []), .bool false, .int .i64 h.creator, .int .i64 h.reader, .int .i64 h.flags, .int .i64 h.method, .int .i64 h.time, .int .i64 h.date, .int .i64 h.crc, .int .i64 h.packed, .int .i64 h.size, .int .i64 h.ext] 36 ∧ Below w.heap.size w (W1.setCell ⟨hd, 0, none⟩ (.string (B (List.take h.name.length (List.drop (a + 46) S)))))) := Lib.hid (by
    obtain ⟨X2, X3, X4, X5, XB⟩ := Y1.out
    have hXS := HXS.out
    exact ⟨X2.set_ne (by show w.heap.size ≠ hd; omega) _, X3.set_ne (by show w.heap.size + 1 ≠ hd; omega) _, X4.set_ne (by show w.heap.size + 1 + 1 ≠ hd; omega) _, X5.set 0 _, XB.setCell (by show w.heap.size ≤ hd; omega) _⟩)
  generalize W1.setCell ⟨hd, 0, none⟩ (.string (B (List.take h.name.length (List.drop (a + 46) S)))) = W2 at Y2 ⊢
  clear Y1 c2 c3 k81 k82 W1
  have c2 : W2.cell? ⟨w.heap.size, 0, none⟩ = some (.string (B S)) := Y2.out.1.cell 0
  have c3 : W2.cell? ⟨w.heap.size + 1, 0, none⟩ = some (.int .i64 a) := Y2.out.2.1.cell 0
  have k81 : W2.cell? ⟨hd, 2, none⟩ = some (.string (B [])) := Y2.out.2.2.2.1.cell 2
  have k82 : W2.frozen? ⟨hd, 2, none⟩ = false := Y2.out.2.2.2.1.frozen 2
  have h83 : (a : Int) + 46 + (h.name.length : Int) + (h.extra.length : Int) ≤ (S.length : Int) := by omega
  have h84 : (a : Int) + 46 + (h.name.length : Int) ≤ (a : Int) + 46 + (h.name.length : Int) + (h.extra.length : Int) := by omega
  go_upto_region 10 with fail
  have Y3 : Hid (Blk (W2.setCell ⟨hd, 2, none⟩ (.string (B (List.take h.extra.length (List.drop (a + 46 + h.name.length) S))))) w.heap.size #[.string (B S)] 9 ∧ Blk (W2.setCell ⟨hd, 2, none⟩ (.string (B (List.take h.extra.length (List.drop (a + 46 + h.name.length) S))))) (w.heap.size + 1) #[.int .i64 a] 3 ∧ Blk (W2.setCell ⟨hd, 2, none⟩ (.string (B (List.take h.extra.length (List.drop (a + 46 + h.name.length) S))))) (w.heap.size + 1 + 1) #[.string ⟨#[]⟩, .string ⟨#[]⟩, .string ⟨#[]⟩, .bool false, .int .i64 0, .int .i64 0, .int .i64 0, .int .i64 0, .int .i64 0, .int .i64 0, .int .i64 0, .int .i64 0, .int .i64 0, .int .i64 0, .int .i64 0, .string ⟨#[]⟩] 50 ∧ Blk (W2.setCell ⟨hd, 2, none⟩ (.string (B (List.take h.extra.length (List.drop (a + 46 + h.name.length) S))))) hd #[.string (B (List.take h.name.length (List.drop (a + 46) S))), .string (B []), .string (B (List.take h.extra.length (List.drop (a + 46 + h.name.length) S))), .bool false, .int .i64 h.creator, .int .i64 h.reader, .int .i64 h.flags, .int .i64 h.method, .int .i64 h.time, .int .i64 h.date, .int .i64 h.crc, .int .i64 h.packed, .int .i64 h.size, .int .i64 h.ext] 36 ∧ Below w.heap.size w (W2.setCell ⟨hd, 2, none⟩ (.string (B (List.take h.extra.length (List.drop (a + 46 + h.name.length) S)))))) := Lib.hid (by
    obtain ⟨X2, X3, X4, X5, XB⟩ := Y2.out
    have hXS := HXS.out
    exact ⟨X2.set_ne (by show w.heap.size ≠ hd; omega) _, X3.set_ne (by show w.heap.size + 1 ≠ hd; omega) _, X4.set_ne (by show w.heap.size + 1 + 1 ≠ hd; omega) _, X5.set 2 _, XB.setCell (by show w.heap.size ≤ hd; omega) _⟩)
  generalize W2.setCell ⟨hd, 2, none⟩ (.string (B (List.take h.extra.length (List.drop (a + 46 + h.name.length) S)))) = W3 at Y3 ⊢
  clear Y2 c2 c3 k81 k82 W2
  have c2 : W3.cell? ⟨w.heap.size, 0, none⟩ = some (.string (B S)) := Y3.out.1.cell 0
  have c3 : W3.cell? ⟨w.heap.size + 1, 0, none⟩ = some (.int .i64 a) := Y3.out.2.1.cell 0
  have k81 : W3.cell? ⟨hd, 1, none⟩ = some (.string (B [])) := Y3.out.2.2.2.1.cell 1
  have k82 : W3.frozen? ⟨hd, 1, none⟩ = false := Y3.out.2.2.2.1.frozen 1
  have h85 : (a : Int) + 46 + (h.name.length : Int) + (h.extra.length : Int) + (h.comment.length : Int) ≤ (S.length : Int) := by omega
  have h86 : (a : Int) + 46 + (h.name.length : Int) + (h.extra.length : Int) ≤ (a : Int) + 46 + (h.name.length : Int) + (h.extra.length : Int) + (h.comment.length : Int) := by omega
  go_upto_region 11 with fail
  have Y4 : Hid (Blk (W3.setCell ⟨hd, 1, none⟩ (.string (B (List.take h.comment.length (List.drop (a + 46 + h.name.length + h.extra.length) S))))) w.heap.size #[.string (B S)] 9 ∧ Blk (W3.setCell ⟨hd, 1, none⟩ (.string (B (List.take h.comment.length (List.drop (a + 46 + h.name.length + h.extra.length) S))))) (w.heap.size + 1) #[.int .i64 a] 3 ∧ Blk (W3.setCell ⟨hd, 1, none⟩ (.string (B (List.take h.comment.length (List.drop (a + 46 + h.name.length + h.extra.length) S))))) (w.heap.size + 1 + 1) #[.string ⟨#[]⟩, .string ⟨#[]⟩, .string ⟨#[]⟩, .bool false, .int .i64 0, .int .i64 0, .int .i64 0, .int .i64 0, .int .i64 0, .int .i64 0, .int .i64 0, .int .i64 0, .int .i64 0, .int .i64 0, .int .i64 0, .string ⟨#[]⟩] 50 ∧ Blk (W3.setCell ⟨hd, 1, none⟩ (.string (B (List.take h.comment.length (List.drop (a + 46 + h.name.length + h.extra.length) S))))) hd #[.string (B (List.take h.name.length (List.drop (a + 46) S))), .string (B (List.take h.comment.length (List.drop (a + 46 + h.name.length + h.extra.length) S))), .string (B (List.take h.extra.length (List.drop (a + 46 + h.name.length) S))), .bool false, .int .i64 h.creator, .int .i64 h.reader, .int .i64 h.flags, .int .i64 h.method, .int .i64 h.time, .int .i64 h.date, .int .i64 h.crc, .int .i64 h.packed, .int .i64 h.size, .int .i64 h.ext] 36 ∧ Below w.heap.size w (W3.setCell ⟨hd, 1, none⟩ (.string (B (List.take h.comment.length (List.drop (a + 46 + h.name.length + h.extra.length) S)))))) := Lib.hid (by
    obtain ⟨X2, X3, X4, X5, XB⟩ := Y3.out
    have hXS := HXS.out
    exact ⟨X2.set_ne (by show w.heap.size ≠ hd; omega) _, X3.set_ne (by show w.heap.size + 1 ≠ hd; omega) _, X4.set_ne (by show w.heap.size + 1 + 1 ≠ hd; omega) _, X5.set 1 _, XB.setCell (by show w.heap.size ≤ hd; omega) _⟩)
  generalize W3.setCell ⟨hd, 1, none⟩ (.string (B (List.take h.comment.length (List.drop (a + 46 + h.name.length + h.extra.length) S)))) = W4 at Y4 ⊢
  clear Y3 c2 c3 k81 k82 W3
  have E8 : Hid ((List.take h.name.length (List.drop (a + 46) S)) = h.name) := Lib.hid (by rw [← List.drop_drop, hS', List.drop_left' hl46, List.append_assoc, List.append_assoc, List.take_left])
  have E9 : Hid ((List.take h.extra.length (List.drop (a + 46 + h.name.length) S)) = h.extra) := Lib.hid (by rw [← List.drop_drop, ← List.drop_drop, hS', List.drop_left' hl46, List.append_assoc, List.append_assoc, List.drop_left, List.take_left])
  have E10 : Hid ((List.take h.comment.length (List.drop (a + 46 + h.name.length + h.extra.length) S)) = h.comment) := Lib.hid (by rw [← List.drop_drop, ← List.drop_drop, ← List.drop_drop, hS', List.drop_left' hl46, List.append_assoc, List.append_assoc, List.drop_left, List.drop_left, List.take_left])
  have Y5 : Hid (Blk W4.drew w.heap.size #[.string (B S)] 9 ∧ Blk W4.drew (w.heap.size + 1) #[.int .i64 a] 3 ∧ Blk W4.drew (w.heap.size + 1 + 1) #[.string ⟨#[]⟩, .string ⟨#[]⟩, .string ⟨#[]⟩, .bool false, .int .i64 0, .int .i64 0, .int .i64 0, .int .i64 0, .int .i64 0, .int .i64 0, .int .i64 0, .int .i64 0, .int .i64 0, .int .i64 0, .int .i64 0, .string ⟨#[]⟩] 50 ∧ Blk W4.drew hd #[.string (B h.name), .string (B h.comment), .string (B h.extra), .bool false, .int .i64 h.creator, .int .i64 h.reader, .int .i64 h.flags, .int .i64 h.method, .int .i64 h.time, .int .i64 h.date, .int .i64 h.crc, .int .i64 h.packed, .int .i64 h.size, .int .i64 h.ext] 36 ∧ Below w.heap.size w W4.drew) := Lib.hid (by
    obtain ⟨X2, X3, X4, X5, XB⟩ := Y4.out
    rw [E8.out, E9.out, E10.out] at X5
    exact ⟨X2.drew, X3.drew, X4.drew, X5.drew, XB.drew⟩)
  have Y6 : Hid (Below w.heap.size w W4) := Lib.hid Y4.out.2.2.2.2
  clear E8 E9 E10 hS' h81 h82 h83 h84 h85 h86 Y4
  have c2 : W4.drew.cell? ⟨w.heap.size, 0, none⟩ = some (.string (B S)) := Y5.out.1.cell 0
  have c3 : W4.drew.cell? ⟨w.heap.size + 1, 0, none⟩ = some (.int .i64 a) := Y5.out.2.1.cell 0
  have c3w : W4.cell? ⟨w.heap.size + 1, 0, none⟩ = some (.int .i64 a) := Y5.out.2.1.cell 0
  have D42 : Hid (Calls Tryz.prog 80 #[.int .i64 42, .int .i64 46, .pointer (some ⟨w.heap.size, 0, none⟩), .pointer (some ⟨w.heap.size + 1, 0, none⟩)] W4.drew fun e w' => e = .returned (.int .i64 off) ∧ W4.drew = w') := Lib.hid (KEY.out W4.drew c2 c3 42 46 4 _ rfl (by decide) (by decide) HB.out.f42)
  clear KEY HB c2
  have a0 : W4.drew.cell? ⟨hd, 0, none⟩ = some (.string (B h.name)) := Y5.out.2.2.2.1.cell 0
  have a0w : W4.cell? ⟨hd, 0, none⟩ = some (.string (B h.name)) := Y5.out.2.2.2.1.cell 0
  have a1 : W4.drew.cell? ⟨hd, 1, none⟩ = some (.string (B h.comment)) := Y5.out.2.2.2.1.cell 1
  have a1w : W4.cell? ⟨hd, 1, none⟩ = some (.string (B h.comment)) := Y5.out.2.2.2.1.cell 1
  have a2 : W4.drew.cell? ⟨hd, 2, none⟩ = some (.string (B h.extra)) := Y5.out.2.2.2.1.cell 2
  have a2w : W4.cell? ⟨hd, 2, none⟩ = some (.string (B h.extra)) := Y5.out.2.2.2.1.cell 2
  have a3 : W4.drew.cell? ⟨hd, 3, none⟩ = some (.bool false) := Y5.out.2.2.2.1.cell 3
  have a3w : W4.cell? ⟨hd, 3, none⟩ = some (.bool false) := Y5.out.2.2.2.1.cell 3
  have a4 : W4.drew.cell? ⟨hd, 4, none⟩ = some (.int .i64 h.creator) := Y5.out.2.2.2.1.cell 4
  have a4w : W4.cell? ⟨hd, 4, none⟩ = some (.int .i64 h.creator) := Y5.out.2.2.2.1.cell 4
  have a5 : W4.drew.cell? ⟨hd, 5, none⟩ = some (.int .i64 h.reader) := Y5.out.2.2.2.1.cell 5
  have a5w : W4.cell? ⟨hd, 5, none⟩ = some (.int .i64 h.reader) := Y5.out.2.2.2.1.cell 5
  have a6 : W4.drew.cell? ⟨hd, 6, none⟩ = some (.int .i64 h.flags) := Y5.out.2.2.2.1.cell 6
  have a6w : W4.cell? ⟨hd, 6, none⟩ = some (.int .i64 h.flags) := Y5.out.2.2.2.1.cell 6
  have a7 : W4.drew.cell? ⟨hd, 7, none⟩ = some (.int .i64 h.method) := Y5.out.2.2.2.1.cell 7
  have a7w : W4.cell? ⟨hd, 7, none⟩ = some (.int .i64 h.method) := Y5.out.2.2.2.1.cell 7
  have a8 : W4.drew.cell? ⟨hd, 8, none⟩ = some (.int .i64 h.time) := Y5.out.2.2.2.1.cell 8
  have a8w : W4.cell? ⟨hd, 8, none⟩ = some (.int .i64 h.time) := Y5.out.2.2.2.1.cell 8
  have a9 : W4.drew.cell? ⟨hd, 9, none⟩ = some (.int .i64 h.date) := Y5.out.2.2.2.1.cell 9
  have a9w : W4.cell? ⟨hd, 9, none⟩ = some (.int .i64 h.date) := Y5.out.2.2.2.1.cell 9
  have a10 : W4.drew.cell? ⟨hd, 10, none⟩ = some (.int .i64 h.crc) := Y5.out.2.2.2.1.cell 10
  have a10w : W4.cell? ⟨hd, 10, none⟩ = some (.int .i64 h.crc) := Y5.out.2.2.2.1.cell 10
  have a11 : W4.drew.cell? ⟨hd, 11, none⟩ = some (.int .i64 h.packed) := Y5.out.2.2.2.1.cell 11
  have a11w : W4.cell? ⟨hd, 11, none⟩ = some (.int .i64 h.packed) := Y5.out.2.2.2.1.cell 11
  have a12 : W4.drew.cell? ⟨hd, 12, none⟩ = some (.int .i64 h.size) := Y5.out.2.2.2.1.cell 12
  have a12w : W4.cell? ⟨hd, 12, none⟩ = some (.int .i64 h.size) := Y5.out.2.2.2.1.cell 12
  have a13 : W4.drew.cell? ⟨hd, 13, none⟩ = some (.int .i64 h.ext) := Y5.out.2.2.2.1.cell 13
  have a13w : W4.cell? ⟨hd, 13, none⟩ = some (.int .i64 h.ext) := Y5.out.2.2.2.1.cell 13
  have r0 : W4.drew.cell? ⟨w.heap.size + 1 + 1, 0, none⟩ = some (.string ⟨#[]⟩) := Y5.out.2.2.1.cell 0
  have r0w : W4.cell? ⟨w.heap.size + 1 + 1, 0, none⟩ = some (.string ⟨#[]⟩) := Y5.out.2.2.1.cell 0
  have f0 : W4.drew.frozen? ⟨w.heap.size + 1 + 1, 0, none⟩ = false := Y5.out.2.2.1.frozen 0
  have f0w : W4.frozen? ⟨w.heap.size + 1 + 1, 0, none⟩ = false := Y5.out.2.2.1.frozen 0
  have r1 : W4.drew.cell? ⟨w.heap.size + 1 + 1, 1, none⟩ = some (.string ⟨#[]⟩) := Y5.out.2.2.1.cell 1
  have r1w : W4.cell? ⟨w.heap.size + 1 + 1, 1, none⟩ = some (.string ⟨#[]⟩) := Y5.out.2.2.1.cell 1
  have f1 : W4.drew.frozen? ⟨w.heap.size + 1 + 1, 1, none⟩ = false := Y5.out.2.2.1.frozen 1
  have f1w : W4.frozen? ⟨w.heap.size + 1 + 1, 1, none⟩ = false := Y5.out.2.2.1.frozen 1
  have r2 : W4.drew.cell? ⟨w.heap.size + 1 + 1, 2, none⟩ = some (.string ⟨#[]⟩) := Y5.out.2.2.1.cell 2
  have r2w : W4.cell? ⟨w.heap.size + 1 + 1, 2, none⟩ = some (.string ⟨#[]⟩) := Y5.out.2.2.1.cell 2
  have f2 : W4.drew.frozen? ⟨w.heap.size + 1 + 1, 2, none⟩ = false := Y5.out.2.2.1.frozen 2
  have f2w : W4.frozen? ⟨w.heap.size + 1 + 1, 2, none⟩ = false := Y5.out.2.2.1.frozen 2
  have r3 : W4.drew.cell? ⟨w.heap.size + 1 + 1, 3, none⟩ = some (.bool false) := Y5.out.2.2.1.cell 3
  have r3w : W4.cell? ⟨w.heap.size + 1 + 1, 3, none⟩ = some (.bool false) := Y5.out.2.2.1.cell 3
  have f3 : W4.drew.frozen? ⟨w.heap.size + 1 + 1, 3, none⟩ = false := Y5.out.2.2.1.frozen 3
  have f3w : W4.frozen? ⟨w.heap.size + 1 + 1, 3, none⟩ = false := Y5.out.2.2.1.frozen 3
  have r4 : W4.drew.cell? ⟨w.heap.size + 1 + 1, 4, none⟩ = some (.int .i64 0) := Y5.out.2.2.1.cell 4
  have r4w : W4.cell? ⟨w.heap.size + 1 + 1, 4, none⟩ = some (.int .i64 0) := Y5.out.2.2.1.cell 4
  have f4 : W4.drew.frozen? ⟨w.heap.size + 1 + 1, 4, none⟩ = false := Y5.out.2.2.1.frozen 4
  have f4w : W4.frozen? ⟨w.heap.size + 1 + 1, 4, none⟩ = false := Y5.out.2.2.1.frozen 4
  have r5 : W4.drew.cell? ⟨w.heap.size + 1 + 1, 5, none⟩ = some (.int .i64 0) := Y5.out.2.2.1.cell 5
  have r5w : W4.cell? ⟨w.heap.size + 1 + 1, 5, none⟩ = some (.int .i64 0) := Y5.out.2.2.1.cell 5
  have f5 : W4.drew.frozen? ⟨w.heap.size + 1 + 1, 5, none⟩ = false := Y5.out.2.2.1.frozen 5
  have f5w : W4.frozen? ⟨w.heap.size + 1 + 1, 5, none⟩ = false := Y5.out.2.2.1.frozen 5
  have r6 : W4.drew.cell? ⟨w.heap.size + 1 + 1, 6, none⟩ = some (.int .i64 0) := Y5.out.2.2.1.cell 6
  have r6w : W4.cell? ⟨w.heap.size + 1 + 1, 6, none⟩ = some (.int .i64 0) := Y5.out.2.2.1.cell 6
  have f6 : W4.drew.frozen? ⟨w.heap.size + 1 + 1, 6, none⟩ = false := Y5.out.2.2.1.frozen 6
  have f6w : W4.frozen? ⟨w.heap.size + 1 + 1, 6, none⟩ = false := Y5.out.2.2.1.frozen 6
  have r7 : W4.drew.cell? ⟨w.heap.size + 1 + 1, 7, none⟩ = some (.int .i64 0) := Y5.out.2.2.1.cell 7
  have r7w : W4.cell? ⟨w.heap.size + 1 + 1, 7, none⟩ = some (.int .i64 0) := Y5.out.2.2.1.cell 7
  have f7 : W4.drew.frozen? ⟨w.heap.size + 1 + 1, 7, none⟩ = false := Y5.out.2.2.1.frozen 7
  have f7w : W4.frozen? ⟨w.heap.size + 1 + 1, 7, none⟩ = false := Y5.out.2.2.1.frozen 7
  have r8 : W4.drew.cell? ⟨w.heap.size + 1 + 1, 8, none⟩ = some (.int .i64 0) := Y5.out.2.2.1.cell 8
  have r8w : W4.cell? ⟨w.heap.size + 1 + 1, 8, none⟩ = some (.int .i64 0) := Y5.out.2.2.1.cell 8
  have f8 : W4.drew.frozen? ⟨w.heap.size + 1 + 1, 8, none⟩ = false := Y5.out.2.2.1.frozen 8
  have f8w : W4.frozen? ⟨w.heap.size + 1 + 1, 8, none⟩ = false := Y5.out.2.2.1.frozen 8
  have r9 : W4.drew.cell? ⟨w.heap.size + 1 + 1, 9, none⟩ = some (.int .i64 0) := Y5.out.2.2.1.cell 9
  have r9w : W4.cell? ⟨w.heap.size + 1 + 1, 9, none⟩ = some (.int .i64 0) := Y5.out.2.2.1.cell 9
  have f9 : W4.drew.frozen? ⟨w.heap.size + 1 + 1, 9, none⟩ = false := Y5.out.2.2.1.frozen 9
  have f9w : W4.frozen? ⟨w.heap.size + 1 + 1, 9, none⟩ = false := Y5.out.2.2.1.frozen 9
  have r10 : W4.drew.cell? ⟨w.heap.size + 1 + 1, 10, none⟩ = some (.int .i64 0) := Y5.out.2.2.1.cell 10
  have r10w : W4.cell? ⟨w.heap.size + 1 + 1, 10, none⟩ = some (.int .i64 0) := Y5.out.2.2.1.cell 10
  have f10 : W4.drew.frozen? ⟨w.heap.size + 1 + 1, 10, none⟩ = false := Y5.out.2.2.1.frozen 10
  have f10w : W4.frozen? ⟨w.heap.size + 1 + 1, 10, none⟩ = false := Y5.out.2.2.1.frozen 10
  have r11 : W4.drew.cell? ⟨w.heap.size + 1 + 1, 11, none⟩ = some (.int .i64 0) := Y5.out.2.2.1.cell 11
  have r11w : W4.cell? ⟨w.heap.size + 1 + 1, 11, none⟩ = some (.int .i64 0) := Y5.out.2.2.1.cell 11
  have f11 : W4.drew.frozen? ⟨w.heap.size + 1 + 1, 11, none⟩ = false := Y5.out.2.2.1.frozen 11
  have f11w : W4.frozen? ⟨w.heap.size + 1 + 1, 11, none⟩ = false := Y5.out.2.2.1.frozen 11
  have r12 : W4.drew.cell? ⟨w.heap.size + 1 + 1, 12, none⟩ = some (.int .i64 0) := Y5.out.2.2.1.cell 12
  have r12w : W4.cell? ⟨w.heap.size + 1 + 1, 12, none⟩ = some (.int .i64 0) := Y5.out.2.2.1.cell 12
  have f12 : W4.drew.frozen? ⟨w.heap.size + 1 + 1, 12, none⟩ = false := Y5.out.2.2.1.frozen 12
  have f12w : W4.frozen? ⟨w.heap.size + 1 + 1, 12, none⟩ = false := Y5.out.2.2.1.frozen 12
  have r13 : W4.drew.cell? ⟨w.heap.size + 1 + 1, 13, none⟩ = some (.int .i64 0) := Y5.out.2.2.1.cell 13
  have r13w : W4.cell? ⟨w.heap.size + 1 + 1, 13, none⟩ = some (.int .i64 0) := Y5.out.2.2.1.cell 13
  have f13 : W4.drew.frozen? ⟨w.heap.size + 1 + 1, 13, none⟩ = false := Y5.out.2.2.1.frozen 13
  have f13w : W4.frozen? ⟨w.heap.size + 1 + 1, 13, none⟩ = false := Y5.out.2.2.1.frozen 13
  have r14 : W4.drew.cell? ⟨w.heap.size + 1 + 1, 14, none⟩ = some (.int .i64 0) := Y5.out.2.2.1.cell 14
  have r14w : W4.cell? ⟨w.heap.size + 1 + 1, 14, none⟩ = some (.int .i64 0) := Y5.out.2.2.1.cell 14
  have f14 : W4.drew.frozen? ⟨w.heap.size + 1 + 1, 14, none⟩ = false := Y5.out.2.2.1.frozen 14
  have f14w : W4.frozen? ⟨w.heap.size + 1 + 1, 14, none⟩ = false := Y5.out.2.2.1.frozen 14
  have r15 : W4.drew.cell? ⟨w.heap.size + 1 + 1, 15, none⟩ = some (.string ⟨#[]⟩) := Y5.out.2.2.1.cell 15
  have r15w : W4.cell? ⟨w.heap.size + 1 + 1, 15, none⟩ = some (.string ⟨#[]⟩) := Y5.out.2.2.1.cell 15
  have f15 : W4.drew.frozen? ⟨w.heap.size + 1 + 1, 15, none⟩ = false := Y5.out.2.2.1.frozen 15
  have f15w : W4.frozen? ⟨w.heap.size + 1 + 1, 15, none⟩ = false := Y5.out.2.2.1.frozen 15
  have HB0 : Blk W4 (w.heap.size + 1 + 1) #[.string ⟨#[]⟩, .string ⟨#[]⟩, .string ⟨#[]⟩, .bool false, .int .i64 0, .int .i64 0, .int .i64 0, .int .i64 0, .int .i64 0, .int .i64 0, .int .i64 0, .int .i64 0, .int .i64 0, .int .i64 0, .int .i64 0, .string ⟨#[]⟩] 50 := Y5.out.2.2.1
  have HB1 : Blk (W4.setCells (w.heap.size + 1 + 1) 0 [.string (B h.name), .string (B h.comment), .string (B h.extra), .bool false, .int .i64 h.creator, .int .i64 h.reader, .int .i64 h.flags, .int .i64 h.method, .int .i64 h.time, .int .i64 h.date, .int .i64 h.crc, .int .i64 h.packed, .int .i64 h.size, .int .i64 h.ext, .int .i64 off, .string ⟨#[]⟩]) (w.heap.size + 1 + 1) (Array.mk [.string (B h.name), .string (B h.comment), .string (B h.extra), .bool false, .int .i64 h.creator, .int .i64 h.reader, .int .i64 h.flags, .int .i64 h.method, .int .i64 h.time, .int .i64 h.date, .int .i64 h.crc, .int .i64 h.packed, .int .i64 h.size, .int .i64 h.ext, .int .i64 off, .string ⟨#[]⟩]) 50 := HB0.setCells _ rfl
  have HBR := Lib.hid HB1.drew
  have HW1 : Below w.heap.size w (W4.setCells (w.heap.size + 1 + 1) 0 [.string (B h.name), .string (B h.comment), .string (B h.extra), .bool false, .int .i64 h.creator, .int .i64 h.reader, .int .i64 h.flags, .int .i64 h.method, .int .i64 h.time, .int .i64 h.date, .int .i64 h.crc, .int .i64 h.packed, .int .i64 h.size, .int .i64 h.ext, .int .i64 off, .string ⟨#[]⟩]) := Y6.out.trans ((Fr.setCells (S := (· = w.heap.size + 1 + 1)) _ _ (Fr.refl _ _) (fun _ => rfl)).below Y6.out.size (by rintro i hi rfl; omega))
  have HBW := Lib.hid HW1.drew
  clear HB0 HB1 HW1
  clear Y5 Y6
  have w1 : IntKind.i64.wrap ((a : Int) + 46) = (a : Int) + 46 := by rw [IntKind.wrap_i64]; omega
  have w2 : IntKind.i64.wrap ((a : Int) + 46 + h.name.length) = (a : Int) + 46 + h.name.length := by rw [IntKind.wrap_i64]; omega
  have w3 : IntKind.i64.wrap ((a : Int) + 46 + h.name.length + h.extra.length) = (a : Int) + 46 + h.name.length + h.extra.length := by rw [IntKind.wrap_i64]; omega
  have w4 : IntKind.i64.wrap ((a : Int) + 46 + h.name.length + h.extra.length + h.comment.length) = (a : Int) + 46 + h.name.length + h.extra.length + h.comment.length := by rw [IntKind.wrap_i64]; omega
  have HB := Lib.hid (And.intro HBR.out HBW.out)
  clear HBR HBW
  simp only [World.setCells, Nat.reduceAdd, Nat.zero_add] at HB
  rename_i K hK
  have HK := Lib.hid hK
  clear hK
  refine wp_mono (Q := Rcen w a h off) ?reg ?rest
  case rest =>
    clear HB D42 c3 c3w a0 a0w a1 a1w a2 a2w a3 a3w a4 a4w a5 a5w a6 a6w a7 a7w a8 a8w a9 a9w a10 a10w a11 a11w a12 a12w a13 a13w r0 r0w f0 f0w r1 r1w f1 f1w r2 r2w f2 f2w r3 r3w f3 f3w r4 r4w f4 f4w r5 r5w f5 f5w r6 r6w f6 f6w r7 r7w f7 f7w r8 r8w f8 f8w r9 r9w f9 f9w r10 r10w f10 f10w r11 r11w f11 f11w r12 r12w f12 f12w r13 r13w f13 f13w r14 r14w f14 f14w r15 r15w f15 f15w
    intro e A W hR
    cases e
    case normal =>
      obtain ⟨hd', h4, h5, h6, hb⟩ := hR
      refine HK.out _ _ ?_
      refine wp_ret ?_
      refine bodyPost_ret (results_cell_tmp2 rfl _ _ (w.heap.size + 1 + 1) 50 _ _ _ h4 hb.1 Tryz.underlying50 rfl sizeRec) hd' ⟨?_, hb.2⟩
      have e : ((a + (46 + h.name.length + h.extra.length + h.comment.length) : Nat) : Int) = (a : Int) + 46 + h.name.length + h.extra.length + h.comment.length := by omega
      rw [h5, h6, e]
      rfl
    all_goals exact False.elim hR
  case reg =>
    go_region_with (go_at_call 80; refine D42.out.mono ?_; rintro e y ⟨rfl, rfl⟩)
    all_goals (
      clear D42 c3 c3w a0 a0w a1 a1w a2 a2w a3 a3w a4 a4w a5 a5w a6 a6w a7 a7w a8 a8w a9 a9w a10 a10w a11 a11w a12 a12w a13 a13w r0 r0w f0 f0w r1 r1w f1 f1w r2 r2w f2 f2w r3 r3w f3 f3w r4 r4w f4 f4w r5 r5w f5 f5w r6 r6w f6 f6w r7 r7w f7 f7w r8 r8w f8 f8w r9 r9w f9 f9w r10 r10w f10 f10w r11 r11w f11 f11w r12 r12w f12 f12w r13 r13w f13 f13w r14 r14w f14 f14w r15 r15w f15 f15w
      generalize (World.drew _ : World) = W5 at HB ⊢
      go_simp
      refine (show _ ∧ _ ∧ _ ∧ _ ∧ _ from ⟨rfl, rfl, ?_, rfl, HB.out⟩)
      first
        | rfl
        | (refine (show Value.int .i64 _ = Value.int .i64 _ from congrArg _ ?_)
           rw [w1, w2, w3, w4]))
end Go.Proofs.Zip
