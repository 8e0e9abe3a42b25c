/- A part of a proof over the given program: ScC. Nothing is assumed here. -/
import Derived.Test.YtidmhfhfcoljeaaGreatDoorZSa
import Derived.Deep.QuietTactic
namespace Go.Proofs.Zip
open Go Go.RowKit
/-! spec.begin, spec.local, spec.content. -/
/-- What stands at a local header. -/
structure LocAt (S : List UInt8) (off : Nat) (h : H) (x : Nat) : Prop where
  le : off + 30 ≤ S.length
  sig : atB S off [80, 75, 3, 4] = true
  name : atB S (off + 30) h.name = true
  f8 : (leN ((S.drop (off + 8)).take 2) : Int) = h.method
  f26 : leN ((S.drop (off + 26)).take 2) = h.name.length
  f28 : leN ((S.drop (off + 28)).take 2) = x
theorem LocAt.of {S : List UInt8} {off : Nat} {L : H} {R : List UInt8} (hS : S.drop off = localL L ++ R) (hm : 0 ≤ L.method ∧ L.method ≤ 65535) (hn : L.name.length ≤ 60000) (hx : L.extra.length ≤ 60000) : LocAt S off L L.extra.length := by
  have hl : off + 30 + L.name.length + L.extra.length ≤ S.length := by
    have h1 := congrArg List.length hS
    rw [List.length_drop, List.length_append, length_localL] at h1
    omega
  have e : ∀ n : Int, ∃ a b, leB 2 n = [a, b] := fun n => ⟨_, _, rfl⟩
  have e' : ∀ n : Int, ∃ a b c d, leB 4 n = [a, b, c, d] := fun n => ⟨_, _, _, _, rfl⟩
  obtain ⟨a2, b2, q2⟩ := e L.reader
  obtain ⟨a3, b3, q3⟩ := e L.flags
  obtain ⟨a4, b4, q4⟩ := e L.method
  obtain ⟨a5, b5, q5⟩ := e L.time
  obtain ⟨a6, b6, q6⟩ := e L.date
  obtain ⟨a7, b7, c7, d7, q7⟩ := e' L.crc
  obtain ⟨a8, b8, c8, d8, q8⟩ := e' L.packed
  obtain ⟨a9, b9, c9, d9, q9⟩ := e' L.size
  obtain ⟨a10, b10, q10⟩ := e L.name.length
  obtain ⟨a11, b11, q11⟩ := e L.extra.length
  have hL : S.drop off = [80, 75, 3, 4, a2, b2, a3, b3, a4, b4, a5, b5, a6, b6, a7, b7, c7, d7, a8, b8, c8, d8, a9, b9, c9, d9, a10, b10, a11, b11] ++ (L.name ++ (L.extra ++ R)) := by
    rw [hS, localL, fieldsL, q2, q3, q4, q5, q6, q7, q8, q9, q10, q11]
    simp only [List.append_assoc, List.cons_append, List.nil_append]
  have k10 := leN_leB2 L.name.length (by omega) (by omega)
  have k11 := leN_leB2 L.extra.length (by omega) (by omega)
  have k4 := leN_leB2 L.method hm.1 hm.2
  refine ⟨by omega, ?_, ?_, ?_, ?_, ?_⟩
  · unfold atB
    rw [hL]
    simp only [Bool.and_eq_true, decide_eq_true_eq]
    exact ⟨by simp; omega, by rfl⟩
  · unfold atB
    rw [← List.drop_drop, hL]
    simp only [Bool.and_eq_true, decide_eq_true_eq]
    refine ⟨by omega, ?_⟩
    rw [List.drop_left' (by rfl), List.take_left]
    simp
  · rw [← List.drop_drop, hL, ← k4, q4]; rfl
  · rw [← List.drop_drop, hL]
    rw [q10] at k10
    exact Int.ofNat.inj k10
  · rw [← List.drop_drop, hL]
    rw [q11] at k11
    exact Int.ofNat.inj k11
set_option maxRecDepth 100000 in
set_option maxHeartbeats 4000000 in
theorem begin_any (S : List UInt8) (h : H) (off n1 n2 : Nat) (data : List UInt8) (w : World) (hlen : S.length ≤ 1152921504606846976) (hle : off + 30 ≤ S.length) (h26 : leN ((S.drop (off + 26)).take 2) = n1) (h28 : leN ((S.drop (off + 28)).take 2) = n2) :
    Calls Tryz.prog 81 #[.string (B S), .agg (recCells h off data).toArray] w fun e w' => e = .returned (.int .i64 (off + 30 + n1 + n2 : Nat)) ∧ Below w.heap.size w w' := by
  have H1 := Lib.hid (fun w' => number_any ((S.drop (off + 26)).take 2) w' (by rw [List.length_take]; omega))
  have H2 := Lib.hid (fun w' => number_any ((S.drop (off + 28)).take 2) w' (by rw [List.length_take]; omega))
  rw [h26] at H1
  rw [h28] at H2
  have b1 : n1 < 4294967296 := by rw [← h26]; exact leN_small _ (by rw [List.length_take]; omega)
  have b2 : n2 < 4294967296 := by rw [← h28]; exact leN_small _ (by rw [List.length_take]; omega)
  go_enter Tryz.func81, Tryz.ntmps81
  go_upto_region 1 with fail
  obtain ⟨W0, hW0⟩ : ∃ W0, W0 = w.alloc (.cells (recCells h off data).toArray 50) := ⟨_, rfl⟩
  have HB := Lib.hid (show Below w.heap.size w W0 by rw [hW0]; exact (Below.refl _ w).alloc (Nat.le_refl _) _)
  have c1 : W0.cell? ⟨w.heap.size, 14, none⟩ = some (.int .i64 off) := by rw [hW0]; exact (Blk.new w _ _).cell 14
  rw [← hW0]
  clear hW0 h26 h28
  have c1d : W0.drew.cell? ⟨w.heap.size, 14, none⟩ = some (.int .i64 off) := c1
  have e1 : IntKind.i64.wrap ((off : Int) + 26) = (off : Int) + 26 := by rw [IntKind.wrap_i64]; omega
  have e2 : IntKind.i64.wrap ((off : Int) + 28) = (off : Int) + 28 := by rw [IntKind.wrap_i64]; omega
  have e3 : IntKind.i64.wrap ((off : Int) + 30) = (off : Int) + 30 := by rw [IntKind.wrap_i64]; omega
  have e4 : IntKind.i64.wrap ((off : Int) + 30 + n1) = (off : Int) + 30 + n1 := by rw [IntKind.wrap_i64]; omega
  have e5 : IntKind.i64.wrap ((off : Int) + 30 + n1 + n2) = (off : Int) + 30 + n1 + n2 := by rw [IntKind.wrap_i64]; omega
  have g1 : (0 : Int) ≤ (off : Int) + 26 := by omega
  have g2 : (0 : Int) ≤ (off : Int) + 28 := by omega
  have g3 : (0 : Int) ≤ (off : Int) + 30 := by omega
  have g4 : (off : Int) + 26 ≤ (off : Int) + 28 := by omega
  have g5 : (off : Int) + 28 ≤ (off : Int) + 30 := by omega
  have g6 : (off : Int) + 28 ≤ (S.length : Int) := by omega
  have g7 : (off : Int) + 30 ≤ (S.length : Int) := by omega
  have t1 : ((off : Int) + 26).toNat = off + 26 := by omega
  have t2 : ((off : Int) + 28).toNat = off + 28 := by omega
  have t3 : ((off : Int) + 30).toNat = off + 30 := by omega
  have H1q : Hid (∀ w', Calls Tryz.prog 47 #[.string (B (List.take 2 (List.drop (off + 26) S)))] w' fun e w'' => e = .returned (.int .i64 n1) ∧ w'' = w') := Lib.hid fun w' => (H1.out w').mono fun e y h => ⟨h.1, h.2.symm⟩
  have H2q : Hid (∀ w', Calls Tryz.prog 47 #[.string (B (List.take 2 (List.drop (off + 28) S)))] w' fun e w'' => e = .returned (.int .i64 n2) ∧ w'' = w') := Lib.hid fun w' => (H2.out w').mono fun e y h => ⟨h.1, h.2.symm⟩
  clear H1 H2
  refine wp_region_quiet_lit (by kernel_rfl) (by kernel_rfl) ?_
  repeat (quiet_step (fail))
  refine wpQuiet_step (fun K hK => ?_)
  go_simp
  refine ⟨.int .i64 n1, fun n => Calls.quiet_of_same (H1q.out _), hK _ ?_⟩
  clear hK K
  repeat (quiet_step (fail))
  refine wpQuiet_step (fun K hK => ?_)
  go_simp
  refine ⟨.int .i64 n2, fun n => Calls.quiet_of_same (H2q.out _), hK _ ?_⟩
  clear hK K
  repeat (quiet_step (fail))
  refine wpQuiet_nil ?_
  intro wx hw'
  obtain ⟨nq, rfl⟩ := hw'
  go_wp2
  go_ret
  exact ⟨by go_num, HB.out.trans (((Fr.refl (fun _ => False) W0).drewN nq).below HB.out.size (fun _ _ => id))⟩
set_option maxRecDepth 100000 in
set_option maxHeartbeats 8000000 in
theorem loc_any (S : List UInt8) (h : H) (off x p : Nat) (data : List UInt8) (w : World) (hlen : S.length ≤ 1152921504606846976) (hL : LocAt S off h x) (hp : h.packed = (p : Int)) (hfit : off + 30 + h.name.length + x + p ≤ S.length) :
    Calls Tryz.prog 49 #[.string (B S), .agg (recCells h off data).toArray] w fun e w' => e = .returned (.bool true) ∧ Below w.heap.size w w' := by
  have hle := hL.le
  have HA1 := Lib.hid (fun w' => at_any S [80, 75, 3, 4] off w' (by omega) (by omega) (by simp))
  have HA2 : Hid (∀ w', Calls Tryz.prog 46 #[.string (B S), .int .i64 ((off : Int) + 30), .string (B h.name)] w' fun e w'' => e = .returned (.bool true) ∧ w' = w'') := Lib.hid fun w' => by
    have := at_any S h.name (off + 30) w' (by omega) (by omega) (by omega)
    rw [hL.name] at this
    exact this
  rw [hL.sig] at HA1
  have HN1 : Hid (∀ w', Calls Tryz.prog 47 #[.string (B (List.take 2 (List.drop (off + 8) S)))] w' fun e w'' => e = .returned (.int .i64 h.method) ∧ w'' = w') := Lib.hid fun w' => (number_any ((S.drop (off + 8)).take 2) w' (by rw [List.length_take]; omega)).mono fun e y hh => ⟨by rw [hh.1, hL.f8], hh.2.symm⟩
  have HN2 : Hid (∀ w', Calls Tryz.prog 47 #[.string (B (List.take 2 (List.drop (off + 26) S)))] w' fun e w'' => e = .returned (.int .i64 h.name.length) ∧ w'' = w') := Lib.hid fun w' => (number_any ((S.drop (off + 26)).take 2) w' (by rw [List.length_take]; omega)).mono fun e y hh => ⟨by rw [hh.1, hL.f26], hh.2.symm⟩
  obtain ⟨m, hm⟩ : ∃ m, m = off + 30 + h.name.length + x := ⟨_, rfl⟩
  have HBG : Hid (∀ w', Calls Tryz.prog 81 #[.string (B S), .agg (recCells h off data).toArray] w' fun e w'' => e = .returned (.int .i64 (m : Nat)) ∧ Below w'.heap.size w' w'') := Lib.hid fun w' => by rw [hm]; exact begin_any S h off _ _ data w' hlen hle hL.f26 hL.f28
  have h1 : ¬ ((S.length : Int) < (off : Int) + 30) := by omega
  have e8 : (m : Int) + h.packed ≤ (S.length : Int) := by omega
  have hpk : 0 ≤ h.packed ∧ h.packed ≤ 1152921504606846976 := by omega
  have hmm : m ≤ 1152921504606846976 := by omega
  clear hL hp hfit hm
  go_enter Tryz.func49, Tryz.ntmps49
  go_upto_region 1 with fail
  obtain ⟨W0, hW0⟩ : ∃ W0, W0 = w.alloc (.cells (recCells h off data).toArray 50) := ⟨_, rfl⟩
  have HB := Lib.hid (show Below w.heap.size w W0 by rw [hW0]; exact (Below.refl _ w).alloc (Nat.le_refl _) _)
  have c0 : W0.cell? ⟨w.heap.size, 0, none⟩ = some (.string (B h.name)) := by rw [hW0]; exact (Blk.new w _ _).cell 0
  have c1 : W0.cell? ⟨w.heap.size, 1, none⟩ = some (.string (B h.comment)) := by rw [hW0]; exact (Blk.new w _ _).cell 1
  have c2 : W0.cell? ⟨w.heap.size, 2, none⟩ = some (.string (B h.extra)) := by rw [hW0]; exact (Blk.new w _ _).cell 2
  have c3 : W0.cell? ⟨w.heap.size, 3, none⟩ = some (.bool h.non) := by rw [hW0]; exact (Blk.new w _ _).cell 3
  have c4 : W0.cell? ⟨w.heap.size, 4, none⟩ = some (.int .i64 h.creator) := by rw [hW0]; exact (Blk.new w _ _).cell 4
  have c5 : W0.cell? ⟨w.heap.size, 5, none⟩ = some (.int .i64 h.reader) := by rw [hW0]; exact (Blk.new w _ _).cell 5
  have c6 : W0.cell? ⟨w.heap.size, 6, none⟩ = some (.int .i64 h.flags) := by rw [hW0]; exact (Blk.new w _ _).cell 6
  have c7 : W0.cell? ⟨w.heap.size, 7, none⟩ = some (.int .i64 h.method) := by rw [hW0]; exact (Blk.new w _ _).cell 7
  have c8 : W0.cell? ⟨w.heap.size, 8, none⟩ = some (.int .i64 h.time) := by rw [hW0]; exact (Blk.new w _ _).cell 8
  have c9 : W0.cell? ⟨w.heap.size, 9, none⟩ = some (.int .i64 h.date) := by rw [hW0]; exact (Blk.new w _ _).cell 9
  have c10 : W0.cell? ⟨w.heap.size, 10, none⟩ = some (.int .i64 h.crc) := by rw [hW0]; exact (Blk.new w _ _).cell 10
  have c11 : W0.cell? ⟨w.heap.size, 11, none⟩ = some (.int .i64 h.packed) := by rw [hW0]; exact (Blk.new w _ _).cell 11
  have c12 : W0.cell? ⟨w.heap.size, 12, none⟩ = some (.int .i64 h.size) := by rw [hW0]; exact (Blk.new w _ _).cell 12
  have c13 : W0.cell? ⟨w.heap.size, 13, none⟩ = some (.int .i64 h.ext) := by rw [hW0]; exact (Blk.new w _ _).cell 13
  have c14 : W0.cell? ⟨w.heap.size, 14, none⟩ = some (.int .i64 off) := by rw [hW0]; exact (Blk.new w _ _).cell 14
  have c15 : W0.cell? ⟨w.heap.size, 15, none⟩ = some (.string (B data)) := by rw [hW0]; exact (Blk.new w _ _).cell 15
  have hlt : w.heap.size < W0.heap.size := by rw [hW0]; simp
  rw [← hW0]
  clear hW0
  go_upto_region 3 with (first | (go_at_call 46; refine (HA1.out _).mono ?_; rintro e y ⟨rfl, rfl⟩))
  have w8 : IntKind.i64.wrap ((off : Int) + 8) = (off : Int) + 8 := by rw [IntKind.wrap_i64]; omega
  have g8 : (0 : Int) ≤ (off : Int) + 8 := by omega
  have l8 : (off : Int) + 8 ≤ (S.length : Int) := by omega
  have t8 : ((off : Int) + 8).toNat = off + 8 := by omega
  have w10 : IntKind.i64.wrap ((off : Int) + 10) = (off : Int) + 10 := by rw [IntKind.wrap_i64]; omega
  have g10 : (0 : Int) ≤ (off : Int) + 10 := by omega
  have l10 : (off : Int) + 10 ≤ (S.length : Int) := by omega
  have t10 : ((off : Int) + 10).toNat = off + 10 := by omega
  have w26 : IntKind.i64.wrap ((off : Int) + 26) = (off : Int) + 26 := by rw [IntKind.wrap_i64]; omega
  have g26 : (0 : Int) ≤ (off : Int) + 26 := by omega
  have l26 : (off : Int) + 26 ≤ (S.length : Int) := by omega
  have t26 : ((off : Int) + 26).toNat = off + 26 := by omega
  have w28 : IntKind.i64.wrap ((off : Int) + 28) = (off : Int) + 28 := by rw [IntKind.wrap_i64]; omega
  have g28 : (0 : Int) ≤ (off : Int) + 28 := by omega
  have l28 : (off : Int) + 28 ≤ (S.length : Int) := by omega
  have t28 : ((off : Int) + 28).toNat = off + 28 := by omega
  have w30 : IntKind.i64.wrap ((off : Int) + 30) = (off : Int) + 30 := by rw [IntKind.wrap_i64]; omega
  have g30 : (0 : Int) ≤ (off : Int) + 30 := by omega
  have l30 : (off : Int) + 30 ≤ (S.length : Int) := by omega
  have t30 : ((off : Int) + 30).toNat = off + 30 := by omega
  have q1 : (off : Int) + 8 ≤ (off : Int) + 10 := by omega
  have q2 : (off : Int) + 26 ≤ (off : Int) + 28 := by omega
  have wm : IntKind.i64.wrap ((m : Int) + h.packed) = (m : Int) + h.packed := by rw [IntKind.wrap_i64]; omega
  refine wp_region_below (by kernel_rfl) (by kernel_rfl) fun σ _ f hf hcell hmk => ?_
  have x0 : ∀ y, (f y).cell? ⟨w.heap.size, 0, none⟩ = some (.string (B h.name)) := fun y => (hcell y _ _ hlt).trans c0
  have x1 : ∀ y, (f y).cell? ⟨w.heap.size, 1, none⟩ = some (.string (B h.comment)) := fun y => (hcell y _ _ hlt).trans c1
  have x2 : ∀ y, (f y).cell? ⟨w.heap.size, 2, none⟩ = some (.string (B h.extra)) := fun y => (hcell y _ _ hlt).trans c2
  have x3 : ∀ y, (f y).cell? ⟨w.heap.size, 3, none⟩ = some (.bool h.non) := fun y => (hcell y _ _ hlt).trans c3
  have x4 : ∀ y, (f y).cell? ⟨w.heap.size, 4, none⟩ = some (.int .i64 h.creator) := fun y => (hcell y _ _ hlt).trans c4
  have x5 : ∀ y, (f y).cell? ⟨w.heap.size, 5, none⟩ = some (.int .i64 h.reader) := fun y => (hcell y _ _ hlt).trans c5
  have x6 : ∀ y, (f y).cell? ⟨w.heap.size, 6, none⟩ = some (.int .i64 h.flags) := fun y => (hcell y _ _ hlt).trans c6
  have x7 : ∀ y, (f y).cell? ⟨w.heap.size, 7, none⟩ = some (.int .i64 h.method) := fun y => (hcell y _ _ hlt).trans c7
  have x8 : ∀ y, (f y).cell? ⟨w.heap.size, 8, none⟩ = some (.int .i64 h.time) := fun y => (hcell y _ _ hlt).trans c8
  have x9 : ∀ y, (f y).cell? ⟨w.heap.size, 9, none⟩ = some (.int .i64 h.date) := fun y => (hcell y _ _ hlt).trans c9
  have x10 : ∀ y, (f y).cell? ⟨w.heap.size, 10, none⟩ = some (.int .i64 h.crc) := fun y => (hcell y _ _ hlt).trans c10
  have x11 : ∀ y, (f y).cell? ⟨w.heap.size, 11, none⟩ = some (.int .i64 h.packed) := fun y => (hcell y _ _ hlt).trans c11
  have x12 : ∀ y, (f y).cell? ⟨w.heap.size, 12, none⟩ = some (.int .i64 h.size) := fun y => (hcell y _ _ hlt).trans c12
  have x13 : ∀ y, (f y).cell? ⟨w.heap.size, 13, none⟩ = some (.int .i64 h.ext) := fun y => (hcell y _ _ hlt).trans c13
  have x14 : ∀ y, (f y).cell? ⟨w.heap.size, 14, none⟩ = some (.int .i64 off) := fun y => (hcell y _ _ hlt).trans c14
  have x15 : ∀ y, (f y).cell? ⟨w.heap.size, 15, none⟩ = some (.string (B data)) := fun y => (hcell y _ _ hlt).trans c15
  clear hcell c0 c1 c2 c3 c4 c5 c6 c7 c8 c9 c10 c11 c12 c13 c14 c15
  have HN1x := fun x => (HN1.out (f x)).mono (R' := fun e w' => e = .returned (.int .i64 h.method) ∧ ∃ y, w' = f y) fun e w' ⟨he, hb⟩ => ⟨he, x, hb⟩
  have HN2x := fun x => (HN2.out (f x)).mono (R' := fun e w' => e = .returned (.int .i64 h.name.length) ∧ ∃ y, w' = f y) fun e w' ⟨he, hb⟩ => ⟨he, x, hb⟩
  have HA2x := fun x => (HA2.out (f x)).mono (R' := fun e w' => e = .returned (.bool true) ∧ ∃ y, w' = f y) fun e w' ⟨he, hb⟩ => ⟨he, x, hb.symm⟩
  have HBGx := fun x => (HBG.out (f x)).mono (R' := fun e w' => e = .returned (.int .i64 (m : Nat)) ∧ ∃ y, w' = f y) fun e w' ⟨he, hb⟩ => ⟨he, hmk x w' hb⟩
  repeat (quiet_step (fail))
  refine wpQuiet_step (fun K hK => ?_)
  go_simp
  refine ⟨_, fun n => HN1x n, hK _ ?_⟩
  clear hK K
  repeat (quiet_step (fail))
  refine wpQuiet_step (fun K hK => ?_)
  go_simp
  refine ⟨_, fun n => HA2x n, hK _ ?_⟩
  clear hK K
  repeat (quiet_step (fail))
  refine wpQuiet_step (fun K hK => ?_)
  go_simp
  refine ⟨_, fun n => HN2x n, hK _ ?_⟩
  clear hK K
  repeat (quiet_step (fail))
  refine wpQuiet_step (fun K hK => ?_)
  go_simp
  refine ⟨_, fun n => HBGx n, hK _ ?_⟩
  clear hK K
  repeat (quiet_step (fail))
  refine wpQuiet_nil ?_
  rintro w' ⟨y, rfl⟩
  have FIN := Lib.hid (onto HB.out (hf y) (Nat.le_of_lt hlt))
  clear x0 x1 x2 x3 x4 x5 x6 x7 x8 x9 x10 x11 x12 x13 x14 x15 HN1x HN2x HA2x HBGx
  go_wp2
  go_ret
  exact ⟨rfl, FIN.out⟩
set_option maxRecDepth 100000 in
set_option maxHeartbeats 8000000 in
theorem cont_any (S : List UInt8) (h : H) (off x p : Nat) (data : List UInt8) (w : World) (hlen : S.length ≤ 1152921504606846976) (hL : LocAt S off h x) (hp : h.packed = (p : Int)) (hfit : off + 30 + h.name.length + x + p ≤ S.length) :
    Calls Tryz.prog 50 #[.string (B S), .agg (recCells h off data).toArray] w fun e w' => e = .returned (.string (B ((S.drop (off + 30 + h.name.length + x)).take p))) ∧ Below w.heap.size w w' := by
  have hle := hL.le
  obtain ⟨m, hm⟩ : ∃ m, m = off + 30 + h.name.length + x := ⟨_, rfl⟩
  have HBG : Hid (∀ w', Calls Tryz.prog 81 #[.string (B S), .agg (recCells h off data).toArray] w' fun e w'' => e = .returned (.int .i64 (m : Nat)) ∧ Below w'.heap.size w' w'') := Lib.hid fun w' => by rw [hm]; exact begin_any S h off _ _ data w' hlen hle hL.f26 hL.f28
  rw [← hm]
  have e8 : (m : Int) + h.packed ≤ (S.length : Int) := by omega
  have e9 : (m : Int) ≤ (m : Int) + h.packed := by omega
  have e10 : ((m : Int) + h.packed).toNat = m + p := by omega
  have wm : IntKind.i64.wrap ((m : Int) + h.packed) = (m : Int) + h.packed := by rw [IntKind.wrap_i64]; omega
  have e11 : (0 : Int) ≤ (m : Int) + h.packed := by omega
  clear hL hp hfit hm hle
  go_enter Tryz.func50, Tryz.ntmps50
  go_upto_region 1 with fail
  obtain ⟨W0, hW0⟩ : ∃ W0, W0 = w.alloc (.cells (recCells h off data).toArray 50) := ⟨_, rfl⟩
  have HB := Lib.hid (show Below w.heap.size w W0 by rw [hW0]; exact (Below.refl _ w).alloc (Nat.le_refl _) _)
  have c0 : W0.cell? ⟨w.heap.size, 0, none⟩ = some (.string (B h.name)) := by rw [hW0]; exact (Blk.new w _ _).cell 0
  have c1 : W0.cell? ⟨w.heap.size, 1, none⟩ = some (.string (B h.comment)) := by rw [hW0]; exact (Blk.new w _ _).cell 1
  have c2 : W0.cell? ⟨w.heap.size, 2, none⟩ = some (.string (B h.extra)) := by rw [hW0]; exact (Blk.new w _ _).cell 2
  have c3 : W0.cell? ⟨w.heap.size, 3, none⟩ = some (.bool h.non) := by rw [hW0]; exact (Blk.new w _ _).cell 3
  have c4 : W0.cell? ⟨w.heap.size, 4, none⟩ = some (.int .i64 h.creator) := by rw [hW0]; exact (Blk.new w _ _).cell 4
  have c5 : W0.cell? ⟨w.heap.size, 5, none⟩ = some (.int .i64 h.reader) := by rw [hW0]; exact (Blk.new w _ _).cell 5
  have c6 : W0.cell? ⟨w.heap.size, 6, none⟩ = some (.int .i64 h.flags) := by rw [hW0]; exact (Blk.new w _ _).cell 6
  have c7 : W0.cell? ⟨w.heap.size, 7, none⟩ = some (.int .i64 h.method) := by rw [hW0]; exact (Blk.new w _ _).cell 7
  have c8 : W0.cell? ⟨w.heap.size, 8, none⟩ = some (.int .i64 h.time) := by rw [hW0]; exact (Blk.new w _ _).cell 8
  have c9 : W0.cell? ⟨w.heap.size, 9, none⟩ = some (.int .i64 h.date) := by rw [hW0]; exact (Blk.new w _ _).cell 9
  have c10 : W0.cell? ⟨w.heap.size, 10, none⟩ = some (.int .i64 h.crc) := by rw [hW0]; exact (Blk.new w _ _).cell 10
  have c11 : W0.cell? ⟨w.heap.size, 11, none⟩ = some (.int .i64 h.packed) := by rw [hW0]; exact (Blk.new w _ _).cell 11
  have c12 : W0.cell? ⟨w.heap.size, 12, none⟩ = some (.int .i64 h.size) := by rw [hW0]; exact (Blk.new w _ _).cell 12
  have c13 : W0.cell? ⟨w.heap.size, 13, none⟩ = some (.int .i64 h.ext) := by rw [hW0]; exact (Blk.new w _ _).cell 13
  have c14 : W0.cell? ⟨w.heap.size, 14, none⟩ = some (.int .i64 off) := by rw [hW0]; exact (Blk.new w _ _).cell 14
  have c15 : W0.cell? ⟨w.heap.size, 15, none⟩ = some (.string (B data)) := by rw [hW0]; exact (Blk.new w _ _).cell 15
  have hlt : w.heap.size < W0.heap.size := by rw [hW0]; simp
  rw [← hW0]
  clear hW0
  refine wp_region_below (by kernel_rfl) (by kernel_rfl) fun σ _ f hf hcell hmk => ?_
  have x0 : ∀ y, (f y).cell? ⟨w.heap.size, 0, none⟩ = some (.string (B h.name)) := fun y => (hcell y _ _ hlt).trans c0
  have x1 : ∀ y, (f y).cell? ⟨w.heap.size, 1, none⟩ = some (.string (B h.comment)) := fun y => (hcell y _ _ hlt).trans c1
  have x2 : ∀ y, (f y).cell? ⟨w.heap.size, 2, none⟩ = some (.string (B h.extra)) := fun y => (hcell y _ _ hlt).trans c2
  have x3 : ∀ y, (f y).cell? ⟨w.heap.size, 3, none⟩ = some (.bool h.non) := fun y => (hcell y _ _ hlt).trans c3
  have x4 : ∀ y, (f y).cell? ⟨w.heap.size, 4, none⟩ = some (.int .i64 h.creator) := fun y => (hcell y _ _ hlt).trans c4
  have x5 : ∀ y, (f y).cell? ⟨w.heap.size, 5, none⟩ = some (.int .i64 h.reader) := fun y => (hcell y _ _ hlt).trans c5
  have x6 : ∀ y, (f y).cell? ⟨w.heap.size, 6, none⟩ = some (.int .i64 h.flags) := fun y => (hcell y _ _ hlt).trans c6
  have x7 : ∀ y, (f y).cell? ⟨w.heap.size, 7, none⟩ = some (.int .i64 h.method) := fun y => (hcell y _ _ hlt).trans c7
  have x8 : ∀ y, (f y).cell? ⟨w.heap.size, 8, none⟩ = some (.int .i64 h.time) := fun y => (hcell y _ _ hlt).trans c8
  have x9 : ∀ y, (f y).cell? ⟨w.heap.size, 9, none⟩ = some (.int .i64 h.date) := fun y => (hcell y _ _ hlt).trans c9
  have x10 : ∀ y, (f y).cell? ⟨w.heap.size, 10, none⟩ = some (.int .i64 h.crc) := fun y => (hcell y _ _ hlt).trans c10
  have x11 : ∀ y, (f y).cell? ⟨w.heap.size, 11, none⟩ = some (.int .i64 h.packed) := fun y => (hcell y _ _ hlt).trans c11
  have x12 : ∀ y, (f y).cell? ⟨w.heap.size, 12, none⟩ = some (.int .i64 h.size) := fun y => (hcell y _ _ hlt).trans c12
  have x13 : ∀ y, (f y).cell? ⟨w.heap.size, 13, none⟩ = some (.int .i64 h.ext) := fun y => (hcell y _ _ hlt).trans c13
  have x14 : ∀ y, (f y).cell? ⟨w.heap.size, 14, none⟩ = some (.int .i64 off) := fun y => (hcell y _ _ hlt).trans c14
  have x15 : ∀ y, (f y).cell? ⟨w.heap.size, 15, none⟩ = some (.string (B data)) := fun y => (hcell y _ _ hlt).trans c15
  clear hcell c0 c1 c2 c3 c4 c5 c6 c7 c8 c9 c10 c11 c12 c13 c14 c15
  have HBGx := fun x => (HBG.out (f x)).mono (R' := fun e w' => e = .returned (.int .i64 (m : Nat)) ∧ ∃ y, w' = f y) fun e w' ⟨he, hb⟩ => ⟨he, hmk x w' hb⟩
  repeat (quiet_step (fail))
  refine wpQuiet_step (fun K hK => ?_)
  go_simp
  refine ⟨_, fun n => HBGx n, hK _ ?_⟩
  clear hK K
  repeat (quiet_step (fail))
  refine wpQuiet_step (fun K hK => ?_)
  go_simp
  refine ⟨_, fun n => HBGx n, hK _ ?_⟩
  clear hK K
  repeat (quiet_step (fail))
  refine wpQuiet_nil ?_
  rintro w' ⟨y, rfl⟩
  have FIN := Lib.hid (onto HB.out (hf y) (Nat.le_of_lt hlt))
  clear x0 x1 x2 x3 x4 x5 x6 x7 x8 x9 x10 x11 x12 x13 x14 x15 HBGx
  go_wp2
  go_ret
  exact ⟨rfl, FIN.out⟩
end Go.Proofs.Zip
