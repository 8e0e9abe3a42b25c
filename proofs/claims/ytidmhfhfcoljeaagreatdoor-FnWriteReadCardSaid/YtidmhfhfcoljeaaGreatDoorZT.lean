/- A part of a proof over the given program: Rn. Nothing is assumed here. -/
import Derived.Test.YtidmhfhfcoljeaaGreatDoorZP
namespace Go.Proofs.Zip
open Go Go.RowKit
theorem sizeLst : (Tryz.prog.info? 28).map (·.size) = some 3 := by kernel_rfl
/-- A listing that is not ok. -/
def NotOk (w : World) (e : Ending) (w' : World) : Prop := e = .returned (.agg #[.bool false, .string ⟨#[]⟩, .slice none 0 0]) ∧ Hid (Below w.heap.size w w')
@[simp] theorem run_notOk (w : World) : (Instr.field 28 (.agg #[.bool false, .string ⟨#[]⟩, .slice none 0 0]) 0).run Tryz.prog w = .ok (.bool false) w := by kernel_rfl
/-- The world in which Read calls NewReader. -/
def readW (D : List UInt8) (w : World) : World := (w.alloc (.cells #[.bool false, .string ⟨#[]⟩, .slice none 0 0] 28)).alloc (.cells #[.string (B D), .int .i64 0, .int .i64 (-1)] 122)
theorem implReadNo_any (D : List UInt8) (w : World)
    (hN : Calls Tryz.prog 32 #[textv (w.heap.size + 1), .int .i64 D.length] (readW D w) fun e w' => (∃ x, e = .returned (.tuple #[.pointer none, errv x])) ∧ Hid (Below (readW D w).heap.size (readW D w) w')) :
    Calls Tryz.prog 13 #[.string (B D)] w (NotOk w) := by
  have HN := Lib.hid hN
  clear hN
  go_enter Tryz.func13, Tryz.ntmps13
  go_wp2_with (go_at_call 33; refine (newText_any D _).mono ?_; rintro e w1 ⟨rfl, rfl⟩)
  refine HN.out.mono ?_
  rintro e w1 ⟨⟨x, rfl⟩, hb⟩
  have h1 : Below w.heap.size w w1 := ((((Fr.refl (fun _ => False) w).alloc _).alloc _).trans2 (Fr.of_below (S := fun _ => False) hb.out) (U := fun _ => False) (fun _ h => h) (fun _ h => h)).below (Nat.le_refl _) (fun _ _ h => h)
  have hc : Blk w1 w.heap.size #[.bool false, .string ⟨#[]⟩, .slice none 0 0] 28 := below_blk hb.out (((Fr.refl (fun _ => False) (w.alloc _)).alloc _).blk (Blk.new _ _ _) id)
  have c0 : w1.cell? ⟨w.heap.size, 0, none⟩ = some (.bool false) := hc.cell 0
  have c1 : w1.cell? ⟨w.heap.size, 1, none⟩ = some (.string ⟨#[]⟩) := hc.cell 1
  have c2 : w1.cell? ⟨w.heap.size, 2, none⟩ = some (.slice none 0 0) := hc.cell 2
  have f0 : w1.frozen? ⟨w.heap.size, 0, none⟩ = false := hc.frozen 0
  have f1 : w1.frozen? ⟨w.heap.size, 1, none⟩ = false := hc.frozen 1
  have f2 : w1.frozen? ⟨w.heap.size, 2, none⟩ = false := hc.frozen 2
  have h2 : Below w.heap.size w (((w1.setCell ⟨w.heap.size, 0, none⟩ (.bool false)).setCell ⟨w.heap.size, 1, none⟩ (.string ⟨#[]⟩)).setCell ⟨w.heap.size, 2, none⟩ (.slice none 0 0)) := ((h1.setCell (Nat.le_refl _) _).setCell (Nat.le_refl _) _).setCell (Nat.le_refl _) _
  have hc2 := Lib.hid (((hc.set 0 (.bool false)).set 1 (.string ⟨#[]⟩)).set 2 (.slice none 0 0))
  have H2 := Lib.hid h2
  clear HN hb h1 hc h2
  go_wp2_with fail
  generalize (((w1.setCell ⟨w.heap.size, 0, none⟩ (.bool false)).setCell ⟨w.heap.size, 1, none⟩ (.string ⟨#[]⟩)).setCell ⟨w.heap.size, 2, none⟩ (.slice none 0 0)) = w2 at hc2 H2
  (try simp only [Exit.inBlock, Exit.then])
  refine bodyPost_ret (results_cell_row rfl _ _ w.heap.size 28 _ _ _ rfl hc2.out Tryz.underlying28 rfl sizeLst) rfl ?_
  exact ⟨rfl, H2⟩
/-- A text without an end. -/
theorem readNoEnd_any {N0 : Nat} {E0 : Errs} (D : List UInt8) (w : World) (hE : Env w N0 E0) (hD : D.length ≤ 2305843009213693952) (hf : Found D none) :
    Calls Tryz.prog 13 #[.string (B D)] w (NotOk w) := by
  have hf0 : Fr (fun _ => False) w (readW D w) := ((Fr.refl _ _).alloc _).alloc _
  have hle := hE.le
  have ha : IsText (readW D w) (w.heap.size + 1) D := by
    have := Blk.new (w.alloc (.cells #[.bool false, .string ⟨#[]⟩, .slice none 0 0] 28)) #[.string (B D), .int .i64 0, .int .i64 (-1)] 122
    rwa [World.size_alloc] at this
  refine implReadNo_any D w ((newZipNo_any (w.heap.size + 1) N0 D E0 _ (hE.fr hf0 (fun _ h => h.elim)) ha (by omega) hD hf).mono ?_)
  rintro e w1 ⟨rfl, hb⟩
  exact ⟨⟨_, rfl⟩, Lib.hid hb⟩
/-- An archive whose directory has another number of files than its end tells. -/
theorem readCount_any {N0 : Nat} {E0 : Errs} (base b k : Nat) (D tl : List UInt8) (hs : List (H × Nat)) (w : World) (hE : Env w N0 E0) (ht : ArcText D b k base hs tl) (hc : hs.length ≠ n2 D (D.length - b + k + 10)) :
    Calls Tryz.prog 13 #[.string (B D)] w (NotOk w) := by
  have hf0 : Fr (fun _ => False) w (readW D w) := ((Fr.refl _ _).alloc _).alloc _
  have hle := hE.le
  have hcnt := ht.cnt
  have ha : IsText (readW D w) (w.heap.size + 1) D := by
    have := Blk.new (w.alloc (.cells #[.bool false, .string ⟨#[]⟩, .slice none 0 0] 28)) #[.string (B D), .int .i64 0, .int .i64 (-1)] 122
    rwa [World.size_alloc] at this
  refine implReadNo_any D w ((newZip_any (w.heap.size + 1) base b k N0 D tl hs E0 _ (hE.fr hf0 (fun _ h => h.elim)) ha (by omega) ht).mono ?_)
  rintro e w1 (⟨hm, _⟩ | ⟨_, x, n, rfl, _, hb⟩)
  · exact absurd hm.out (by rw [Nat.mod_eq_of_lt (by omega)]; exact hc)
  · exact ⟨⟨_, rfl⟩, hb⟩
theorem found_no {D : List UInt8} (h : ∀ b, b ≤ D.length → lastSig D b = -1) : Found D none := .no _ _ rfl (h _ (by omega)) rfl (fun _ => h _ (by omega))
theorem found_none {D : List UInt8} (h : endsL D = 0) : Found D none := found_no fun _ hb => lastSig_out (fun i hi => absurd hi (sig_none h i)) hb
end Go.Proofs.Zip
