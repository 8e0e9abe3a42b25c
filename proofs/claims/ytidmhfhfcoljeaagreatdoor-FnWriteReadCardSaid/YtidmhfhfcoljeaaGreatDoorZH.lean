/- A part of a proof over the given program: Tim3. Nothing is assumed here. -/
import Derived.Test.YtidmhfhfcoljeaaGreatDoorZG
import Derived.Deep.DeepCutAuto
namespace Go.Proofs.Zip
open Go Go.RowKit
def SomeTim (w : World) (e : Ending) (w' : World) : Prop := (∃ wall ext loc, e = .returned (timv wall ext loc)) ∧ Below w.heap.size w w'
def TimAt (w w' : World) : Prop := (∃ a b l, IsTim w' w.heap.size a b l) ∧ Blk w' (w.heap.size + 1) #[.int .u64 0, .int .i64 0, .pointer none] 74 ∧ Below w.heap.size w w'
set_option maxRecDepth 100000 in
set_option maxHeartbeats 1000000 in
theorem add_any (a b d : Int) (l : Option Addr) (w : World) : Calls Tryz.prog 155 #[timv a b l, .int .i64 d] w (SomeTim w) := by
  go_enter Tryz.func155, Tryz.ntmps155
  have h1 : Hid (IsTim ((w.alloc (.cells #[.int .u64 a, .int .i64 b, .pointer l] 74)).alloc (.cells #[.int .u64 0, .int .i64 0, .pointer none] 74)) w.heap.size a b l) := Lib.hid ((Blk.new w _ _).alloc _)
  go_upto_if 16 with (go_at_call 154; refine (nsec_any _ _ _ _ _ h1.out).mono ?_; rintro e w' ⟨⟨n, rfl⟩, rfl⟩)
  go_cut [5, 6] (fun s5 s6 wx => ∃ x y : Int, s5 = .int .i64 x ∧ s6 = .int .i32 y ∧ wx = (w.alloc (.cells #[.int .u64 a, .int .i64 b, .pointer l] 74)).alloc (.cells #[.int .u64 0, .int .i64 0, .pointer none] 74))
  case first =>
    go_wp2
    all_goals (go_meet; exact ⟨_, _, rfl, rfl, rfl⟩)
  case rest =>
    obtain ⟨x, y, rfl, rfl, rfl⟩ := hcut
    go_wp2_with fail
    refine (addSec_any w.heap.size _ b _ l _ ((Blk.new w _ _).alloc _)).mono ?_
    rintro e w2 ⟨⟨v, rfl⟩, ⟨a2, b2, l2, ht⟩, hf⟩
    have h2 : Blk w2 (w.heap.size + 1) #[.int .u64 0, .int .i64 0, .pointer none] 74 := hf.blk (Blk.new' _ _ (by rw [World.size_alloc])) (by omega)
    have hbl : Below w.heap.size w w2 := (((Below.refl _ _).alloc (Nat.le_refl _) _).alloc (by rw [World.size_alloc]; omega) _).trans (hf.below (by rw [World.size_alloc, World.size_alloc]; omega) (fun i hi e => by omega))
    have hz2 : w.heap.size + 2 ≤ w2.heap.size := by have := hf.size; rw [World.size_alloc, World.size_alloc] at this; omega
    have k0 : w2.cell? ⟨w.heap.size, 0, none⟩ = some (.int .u64 a2) := ht.cell 0
    have k1 : w2.cell? ⟨w.heap.size, 1, none⟩ = some (.int .i64 b2) := ht.cell 1
    have f1 : w2.frozen? ⟨w.heap.size, 1, none⟩ = false := ht.frozen 1
    have HT := Lib.hid ht
    have H2 := Lib.hid h2
    have HBL := Lib.hid hbl
    clear ht h2 hf hbl h1
    go_upto_if 39 with fail
    go_cut [7] (fun _ wx => TimAt w wx)
    case first =>
      go_wp2_with (go_at_call 161; refine (stripMono_any w.heap.size a2 b2 l2 _ HT.out).mono ?_; rintro e w3 ⟨⟨v, rfl⟩, ⟨a3, b3, l3, ht3⟩, hf3⟩; have H3 := Lib.hid (hf3.blk H2.out (by omega)); have HT3 := Lib.hid ht3; have HBL3 := Lib.hid (HBL.out.trans (hf3.below (by omega) (fun i hi e => by omega))); clear ht3 hf3)
      all_goals (
        go_meet
        first
          | exact ⟨⟨_, _, _, HT3.out⟩, H3.out, HBL3.out⟩
          | exact ⟨⟨_, _, _, HT.out⟩, H2.out, HBL.out⟩
          | exact ⟨⟨_, _, _, timSet1 HT.out _⟩, H2.out.set_ne (Nat.succ_ne_self _) _, HBL.out.setCell (Nat.le_refl _) _⟩)
    case rest =>
      obtain ⟨⟨a3, b3, l3, ht3⟩, h3, hb3⟩ := hcut
      have HT3 := Lib.hid ht3
      have H3 := Lib.hid h3
      have HBL3 := Lib.hid hb3
      have hz3 := h3.lt
      clear ht3 h3 hb3
      go_wp2_with (first
        | (refine wpList_load_mid rfl 74 _ rfl w.heap.size 0 rfl [.int .u64 a3, .int .i64 b3, .pointer l3] _ (HT3.out.range rfl) Tryz.underlying74 rfl (by kernel_rfl) ?_)
        | (refine wpList_store_blk rfl 74 _ _ rfl (w.heap.size + 1) _ #[.int .u64 a3, .int .i64 b3, .pointer l3] 74 H3.out rfl rfl (by kernel_rfl) rfl rfl ?_; intro hst hfr; have HST := Lib.hid hst; have HFR := Lib.hid (HBL3.out.trans (hfr.below (by omega) (fun i hi e => by omega))); clear hst hfr))
      exact bodyPost_cell rfl (w.heap.size + 1) 0 [.int .u64 a3, .int .i64 b3, .pointer l3] rfl (HST.out.range rfl) Tryz.underlying74 rfl (by kernel_rfl) rfl ⟨⟨_, _, _, rfl⟩, HFR.out⟩
set_option maxRecDepth 100000 in
set_option maxHeartbeats 1000000 in
theorem tsub_any (a b a' b' : Int) (l l' : Option Addr) (w : World) : Calls Tryz.prog 126 #[timv a b l, timv a' b' l'] w fun e w' => (∃ n, e = .returned (.int .i64 n)) ∧ Below w.heap.size w w' := by
  go_enter Tryz.func126, Tryz.ntmps126
  have h1 : Hid (IsTim ((w.alloc (.cells #[.int .u64 a, .int .i64 b, .pointer l] 74)).alloc (.cells #[.int .u64 a', .int .i64 b', .pointer l'] 74)) w.heap.size a b l) := Lib.hid ((Blk.new w _ _).alloc _)
  have h2 : Hid (IsTim ((w.alloc (.cells #[.int .u64 a, .int .i64 b, .pointer l] 74)).alloc (.cells #[.int .u64 a', .int .i64 b', .pointer l'] 74)) (w.heap.size + 1) a' b' l') := Lib.hid (Blk.new' _ _ (by simp))
  go_wp2_with (first
    | (go_at_call 153; refine (subMono_any _ _ _).mono ?_; rintro e w' ⟨⟨n, rfl⟩, rfl⟩)
    | (go_at_call_of 140 (Value.pointer (some (Addr.mk w.heap.size 0 none))); refine (sec_any _ _ _ _ _ h1.out).mono ?_; rintro e w' ⟨⟨n, rfl⟩, rfl⟩)
    | (go_at_call 140; refine (sec_any _ _ _ _ _ h2.out).mono ?_; rintro e w' ⟨⟨n, rfl⟩, rfl⟩)
    | (go_at_call_of 154 (Value.pointer (some (Addr.mk w.heap.size 0 none))); refine (nsec_any _ _ _ _ _ h1.out).mono ?_; rintro e w' ⟨⟨n, rfl⟩, rfl⟩)
    | (go_at_call 154; refine (nsec_any _ _ _ _ _ h2.out).mono ?_; rintro e w' ⟨⟨n, rfl⟩, rfl⟩))
  · go_ret
    refine ⟨?_, ?_⟩
    · exact ⟨_, rfl⟩
    · go_grown
  go_region_with (first
    | (go_at_call 155; refine (add_any _ _ _ _ _).mono ?_; rintro e w1 ⟨⟨x, y, z, rfl⟩, hb1⟩; have hc1 := bcell hb1; simp only [World.size_alloc, World.size_drew] at hc1; have HB1 := Lib.hid hb1; clear hb1)
    | (go_at_call 156; refine (equal_any _ _ _ _ _ _ _).mono ?_; rintro e w2 ⟨⟨x2, rfl⟩, hb2⟩; have hc2 := bcell hb2; have HB2 := Lib.hid hb2; clear hb2))
  all_goals (
    have hbl : Below w.heap.size w w2 := below_up (below_up (((Below.refl _ _).alloc (Nat.le_refl _) _).alloc (by rw [World.size_alloc]; omega) _).drew HB1.out) HB2.out
    have hA := below_blk HB2.out (below_blk HB1.out h1.out.drew)
    have hB := below_blk HB2.out (below_blk HB1.out h2.out.drew)
    have q0 : w2.cell? ⟨w.heap.size, 0, none⟩ = some (.int .u64 a) := hA.cell 0
    have q1 : w2.cell? ⟨w.heap.size, 1, none⟩ = some (.int .i64 b) := hA.cell 1
    have q2 : w2.cell? ⟨w.heap.size, 2, none⟩ = some (.pointer l) := hA.cell 2
    have r0 : w2.cell? ⟨w.heap.size + 1, 0, none⟩ = some (.int .u64 a') := hB.cell 0
    have r1 : w2.cell? ⟨w.heap.size + 1, 1, none⟩ = some (.int .i64 b') := hB.cell 1
    have r2 : w2.cell? ⟨w.heap.size + 1, 2, none⟩ = some (.pointer l') := hB.cell 2
    have HBL := Lib.hid hbl
    clear hbl hA hB hc1 hc2 HB1 HB2 h1 h2
    cases x2
    · go_wp2_with (go_at_call 157; refine (before_any _ _ _ _ _ _ _).mono ?_; rintro e w3 ⟨⟨x3, rfl⟩, hb3⟩; have HB3 := Lib.hid hb3; clear hb3)
      all_goals (
        go_ret
        refine ⟨?_, ?_⟩
        · exact ⟨_, rfl⟩
        · exact below_up HBL.out HB3.out)
    · go_wp2
      go_ret
      refine ⟨?_, ?_⟩
      · exact ⟨_, rfl⟩
      · exact HBL.out)
end Go.Proofs.Zip
