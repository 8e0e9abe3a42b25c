/- A part of a proof over the given program: Tim, Tim2. Nothing is assumed here. -/
import Derived.Test.YtidmhfhfcoljeaaGreatDoorZE
import Derived.Deep.DeepCutAuto
namespace Go.Proofs.Zip
open Go Go.RowKit
abbrev timv (wall ext : Int) (loc : Option Addr) : Value := .agg #[.int .u64 wall, .int .i64 ext, .pointer loc]
set_option maxRecDepth 100000 in
theorem isZero_any (wall ext : Int) (loc : Option Addr) (w : World) : Calls Tryz.prog 71 #[timv wall ext loc] w fun e w' => (∃ b, e = .returned (.bool b)) ∧ Below w.heap.size w w' := by
  go_enter Tryz.func71, Tryz.ntmps71
  go_wp2
  all_goals (
    go_ret
    exact ⟨⟨_, rfl⟩, (Below.refl _ _).alloc (Nat.le_refl _) _⟩)
set_option maxRecDepth 100000 in
theorem tunix_any (s n : Int) (w : World) : Calls Tryz.prog 120 #[.int .i64 s, .int .i64 n] w fun e w' => (∃ wall ext, e = .returned (timv wall ext none)) ∧ Below w.heap.size w w' := by
  go_enter Tryz.func120, Tryz.ntmps120
  go_wp2
  all_goals (
    go_returns
    exact ⟨⟨_, _, rfl⟩, by go_grown⟩)
set_option maxRecDepth 100000 in
theorem norm_any (hi lo base : Int) (hb : 0 < base) (w : World) : Calls Tryz.prog 146 #[.int .i64 hi, .int .i64 lo, .int .i64 base] w fun e w' => (∃ a b, e = .returned (.tuple #[.int .i64 a, .int .i64 b])) ∧ w = w' := by
  go_enter Tryz.func146, Tryz.ntmps146
  have hb0 : ¬ base = 0 := by omega
  have hb1 : (base == 0) = false := by simp; omega
  go_wp2
  all_goals (
    go_ret2
    exact ⟨⟨_, _, rfl⟩, rfl⟩)
set_option maxRecDepth 100000 in
theorem absDays_any (y m d : Int) (w : World) : Calls Tryz.prog 147 #[.int .i64 y, .int .i64 m, .int .i64 d] w fun e w' => (∃ a, e = .returned (.int .u64 a)) ∧ w = w' := by
  go_enter Tryz.func147, Tryz.ntmps147
  go_wp2
  all_goals (
    go_ret
    exact ⟨⟨_, rfl⟩, rfl⟩)
/-- A place in time without zones of its own. -/
abbrev IsLoc (w : World) (b : Nat) : Prop := Blk w b #[.bool true, .string (B [85, 84, 67]), .slice none 0 0, .slice none 0 0, .string (B []), .int .i64 0, .int .i64 0, .pointer none] 291
theorem utc_any (w : World) : Calls Tryz.prog 119 #[] w fun e w' => e = .returned (.pointer (some ⟨w.heap.size, 0, none⟩)) ∧ IsLoc w' w.heap.size ∧ Below w.heap.size w w' := by
  go_enter Tryz.func119, Tryz.ntmps119
  go_wp2
  go_ret
  exact ⟨rfl, Blk.new _ _ _, (Below.refl _ _).alloc (Nat.le_refl _) _⟩
abbrev IsTim (w : World) (b : Nat) (wall ext : Int) (loc : Option Addr) : Prop := Blk w b #[.int .u64 wall, .int .i64 ext, .pointer loc] 74
section
variable {w : World} {b : Nat} {wall ext : Int} {loc : Option Addr} (h : IsTim w b wall ext loc)
include h
theorem timSet0 (v : Int) : IsTim (w.setCell ⟨b, 0, none⟩ (.int .u64 v)) b v ext loc := h.set 0 _
theorem timSet1 (v : Int) : IsTim (w.setCell ⟨b, 1, none⟩ (.int .i64 v)) b wall v loc := h.set 1 _
theorem timSet2 (v : Option Addr) : IsTim (w.setCell ⟨b, 2, none⟩ (.pointer v)) b wall ext v := h.set 2 _
end
set_option maxRecDepth 100000 in
set_option maxHeartbeats 1000000 in
theorem setLoc_any (tb b : Nat) (wall ext : Int) (loc : Option Addr) (u : Bool) (w : World) (ht : IsTim w tb wall ext loc) (hL : w.cell? ⟨b, 0, none⟩ = some (.bool u)) :
    Calls Tryz.prog 150 #[.pointer (some ⟨tb, 0, none⟩), .pointer (some ⟨b, 0, none⟩)] w fun e w' => (∃ v, e = .returned v) ∧ (∃ wall ext loc, IsTim w' tb wall ext loc) ∧ Fr (· = tb) w w' := by
  go_enter Tryz.func150, Tryz.ntmps150
  have c0 : w.cell? ⟨tb, 0, none⟩ = some (.int .u64 wall) := ht.cell 0
  have c1 : w.cell? ⟨tb, 1, none⟩ = some (.int .i64 ext) := ht.cell 1
  have c2 : w.cell? ⟨tb, 2, none⟩ = some (.pointer loc) := ht.cell 2
  have f0 : w.frozen? ⟨tb, 0, none⟩ = false := ht.frozen 0
  have f1 : w.frozen? ⟨tb, 1, none⟩ = false := ht.frozen 1
  have f2 : w.frozen? ⟨tb, 2, none⟩ = false := ht.frozen 2
  have HT := Lib.hid ht
  clear ht
  cases u
  all_goals (
    go_wp2
    · go_returns
      exact ⟨⟨_, rfl⟩, ⟨_, _, _, timSet2 (timSet0 (timSet1 HT.out _) _) _⟩, (((Fr.refl (· = tb) _).setCell (fun _ => rfl) _).setCell (fun _ => rfl) _).setCell (fun _ => rfl) _⟩
    · go_returns
      exact ⟨⟨_, rfl⟩, ⟨_, _, _, timSet2 HT.out _⟩, (Fr.refl (· = tb) _).setCell (fun _ => rfl) _⟩)
set_option maxRecDepth 100000 in
theorem unixTime_any (s n : Int) (w : World) : Calls Tryz.prog 149 #[.int .i64 s, .int .i32 n] w fun e w' => (∃ wall ext, e = .returned (timv wall ext none)) ∧ Below w.heap.size w w' := by
  go_enter Tryz.func149, Tryz.ntmps149
  go_wp2
  go_returns
  exact ⟨⟨_, _, rfl⟩, by go_grown⟩
set_option maxRecDepth 100000 in
theorem locGet_any (b : Nat) (w : World) : Calls Tryz.prog 158 #[.pointer (some ⟨b, 0, none⟩)] w fun e w' => e = .returned (.pointer (some ⟨b, 0, none⟩)) ∧ w = w' := by
  go_enter Tryz.func158, Tryz.ntmps158
  go_wp2
  go_ret
  exact ⟨rfl, rfl⟩
def Looked (w : World) (e : Ending) (w' : World) : Prop := (∃ b c : Int, ∃ s, e = .returned (.tuple #[.string s, .int .i64 0, .int .i64 b, .int .i64 c, .bool false])) ∧ w = w'
set_option maxRecDepth 100000 in
theorem lookup_any (b : Nat) (n : Int) (w : World) (hL : IsLoc w b) : Calls Tryz.prog 148 #[.pointer (some ⟨b, 0, none⟩), .int .i64 n] w (Looked w) := by
  go_enter Tryz.func148, Tryz.ntmps148
  have c2 : w.cell? ⟨b, 2, none⟩ = some (.slice none 0 0) := hL.cell 2
  clear hL
  go_wp2_with (go_at_call 158; refine (locGet_any b _).mono ?_; rintro e w' ⟨rfl, rfl⟩)
  go_returns
  exact ⟨⟨_, _, _, rfl⟩, rfl⟩
set_option maxRecDepth 100000 in
set_option maxHeartbeats 1000000 in
theorem date_any (y mo d h mi s : Int) (b : Nat) (w : World) (hL : IsLoc w b) : Calls Tryz.prog 118 #[.int .i64 y, .int .i64 mo, .int .i64 d, .int .i64 h, .int .i64 mi, .int .i64 s, .int .i64 0, .pointer (some ⟨b, 0, none⟩)] w fun e w' => (∃ wall ext loc, e = .returned (timv wall ext loc)) ∧ Below w.heap.size w w' := by
  go_enter Tryz.func118, Tryz.ntmps118
  have hlt := hL.lt
  have c0 : w.cell? ⟨b, 0, none⟩ = some (.bool true) := hL.cell 0
  have HL := Lib.hid hL
  clear hL
  go_wp2_with (first
    | (go_at_call 146; refine (norm_any _ _ _ (by decide) _).mono ?_; rintro e w' ⟨⟨x1, x2, rfl⟩, rfl⟩)
    | (go_at_call 147; refine (absDays_any _ _ _ _).mono ?_; rintro e w' ⟨⟨x1, rfl⟩, rfl⟩)
    | (go_at_call 148; refine (lookup_any b _ _ (HL.out.alloc _)).mono ?_; rintro e w' ⟨⟨x1, x2, x3, rfl⟩, rfl⟩))
  refine (unixTime_any _ _ _).mono ?_
  rintro e w1 ⟨⟨wall, ext, rfl⟩, hb1⟩
  have hz1 : w.heap.size + 1 ≤ w1.heap.size := by have := hb1.size; simpa using this
  have HB1 := Lib.hid hb1
  clear hb1
  go_wp2_with (refine wpList_alloc_store 74 _ _ [.int .u64 wall, .int .i64 ext, .pointer none] rfl rfl rfl rfl rfl rfl (by kernel_rfl) rfl ?_)
  have h0 : Blk w1 w.heap.size #[.int .u64 0, .int .i64 0, .pointer none] 74 := below_blk HB1.out (Blk.new w _ _)
  have hLc : (w1.alloc (.cells #[.int .u64 wall, .int .i64 ext, .pointer none] 74)).cell? ⟨b, 0, none⟩ = some (.bool true) := by
    have := below_blk HB1.out (HL.out.alloc _)
    exact (this.alloc _).cell 0
  refine (setLoc_any w1.heap.size b wall ext none true _ (Blk.new w1 _ _) hLc).mono ?_
  rintro e w2 ⟨⟨v, rfl⟩, ⟨wall', ext', loc', ht⟩, hf⟩
  have h2 : Blk w2 w.heap.size #[.int .u64 0, .int .i64 0, .pointer none] 74 := hf.blk (h0.alloc _) (by omega)
  have HT := Lib.hid ht
  have H2 := Lib.hid h2
  have HF2 := Lib.hid hf
  clear h0 hLc ht h2 hf
  go_wp2_with (first
    | (refine wpList_load_mid rfl 74 _ rfl w1.heap.size 0 rfl [.int .u64 wall', .int .i64 ext', .pointer loc'] _ (HT.out.range rfl) Tryz.underlying74 rfl (by kernel_rfl) ?_)
    | (refine wpList_store_blk rfl 74 _ _ rfl w.heap.size _ #[.int .u64 wall', .int .i64 ext', .pointer loc'] 74 H2.out rfl rfl (by kernel_rfl) rfl rfl ?_; intro hst hfr; have HST := Lib.hid hst; have HFR := Lib.hid hfr; clear hst hfr))
  refine bodyPost_cell rfl w.heap.size 0 [.int .u64 wall', .int .i64 ext', .pointer loc'] rfl (HST.out.range rfl) Tryz.underlying74 rfl (by kernel_rfl) rfl ⟨⟨_, _, _, rfl⟩, ?_⟩
  have hz2 : w1.heap.size + 1 ≤ w2.heap.size := by have := HF2.out.size; simpa using this
  exact (((below_up ((Below.refl _ _).alloc (Nat.le_refl _) _) HB1.out).alloc (by omega) _).trans (HF2.out.below (by simp; omega) (fun i hi e => by omega))).trans (HFR.out.below (by omega) (fun i hi e => by omega))
end Go.Proofs.Zip
namespace Go.Proofs.Zip
open Go Go.RowKit
set_option maxRecDepth 100000 in
theorem sec_any (b : Nat) (wall ext : Int) (loc : Option Addr) (w : World) (h : IsTim w b wall ext loc) : Calls Tryz.prog 140 #[.pointer (some ⟨b, 0, none⟩)] w fun e w' => (∃ n, e = .returned (.int .i64 n)) ∧ w = w' := by
  go_enter Tryz.func140, Tryz.ntmps140
  have c0 : w.cell? ⟨b, 0, none⟩ = some (.int .u64 wall) := h.cell 0
  have c1 : w.cell? ⟨b, 1, none⟩ = some (.int .i64 ext) := h.cell 1
  clear h
  go_wp2
  all_goals (
    go_ret
    exact ⟨⟨_, rfl⟩, rfl⟩)
set_option maxRecDepth 100000 in
theorem nsec_any (b : Nat) (wall ext : Int) (loc : Option Addr) (w : World) (h : IsTim w b wall ext loc) : Calls Tryz.prog 154 #[.pointer (some ⟨b, 0, none⟩)] w fun e w' => (∃ n, e = .returned (.int .i32 n)) ∧ w = w' := by
  go_enter Tryz.func154, Tryz.ntmps154
  have c0 : w.cell? ⟨b, 0, none⟩ = some (.int .u64 wall) := h.cell 0
  clear h
  go_wp2
  go_ret
  exact ⟨⟨_, rfl⟩, rfl⟩
set_option maxRecDepth 100000 in
theorem subMono_any (t u : Int) (w : World) : Calls Tryz.prog 153 #[.int .i64 t, .int .i64 u] w fun e w' => (∃ n, e = .returned (.int .i64 n)) ∧ w = w' := by
  go_enter Tryz.func153, Tryz.ntmps153
  go_wp2
  all_goals (
    go_ret
    exact ⟨⟨_, rfl⟩, rfl⟩)
set_option maxRecDepth 100000 in
theorem stripMono_any (tb : Nat) (wall ext : Int) (loc : Option Addr) (w : World) (ht : IsTim w tb wall ext loc) :
    Calls Tryz.prog 161 #[.pointer (some ⟨tb, 0, none⟩)] w fun e w' => (∃ v, e = .returned v) ∧ (∃ wall ext loc, IsTim w' tb wall ext loc) ∧ Fr (· = tb) w w' := by
  have HC := Lib.hid (sec_any tb wall ext loc w ht)
  go_enter Tryz.func161, Tryz.ntmps161
  have c0 : w.cell? ⟨tb, 0, none⟩ = some (.int .u64 wall) := ht.cell 0
  have c1 : w.cell? ⟨tb, 1, none⟩ = some (.int .i64 ext) := ht.cell 1
  have f0 : w.frozen? ⟨tb, 0, none⟩ = false := ht.frozen 0
  have f1 : w.frozen? ⟨tb, 1, none⟩ = false := ht.frozen 1
  have HT := Lib.hid ht
  clear ht
  go_wp2_with (go_at_call 140; refine HC.out.mono ?_; rintro e w' ⟨⟨n, rfl⟩, rfl⟩)
  · go_returns
    exact ⟨⟨_, rfl⟩, ⟨_, _, _, timSet0 (timSet1 HT.out _) _⟩, ((Fr.refl (· = tb) _).setCell (fun _ => rfl) _).setCell (fun _ => rfl) _⟩
  · go_returns
    exact ⟨⟨_, rfl⟩, ⟨_, _, _, HT.out⟩, Fr.refl (· = tb) _⟩
set_option maxRecDepth 100000 in
set_option maxHeartbeats 1000000 in
theorem addSec_any (tb : Nat) (wall ext d : Int) (loc : Option Addr) (w : World) (ht : IsTim w tb wall ext loc) :
    Calls Tryz.prog 164 #[.pointer (some ⟨tb, 0, none⟩), .int .i64 d] w fun e w' => (∃ v, e = .returned v) ∧ (∃ wall ext loc, IsTim w' tb wall ext loc) ∧ Fr (· = tb) w w' := by
  have HC := Lib.hid (stripMono_any tb wall ext loc w ht)
  go_enter Tryz.func164, Tryz.ntmps164
  have c0 : w.cell? ⟨tb, 0, none⟩ = some (.int .u64 wall) := ht.cell 0
  have c1 : w.cell? ⟨tb, 1, none⟩ = some (.int .i64 ext) := ht.cell 1
  have f0 : w.frozen? ⟨tb, 0, none⟩ = false := ht.frozen 0
  have f1 : w.frozen? ⟨tb, 1, none⟩ = false := ht.frozen 1
  have HT := Lib.hid ht
  clear ht
  go_wp2_with (go_at_call 161; refine HC.out.mono ?_; rintro e w' ⟨⟨v, rfl⟩, ⟨wall', ext', loc', ht'⟩, hf⟩; have c1' : w'.cell? ⟨tb, 1, none⟩ = some (.int .i64 ext') := ht'.cell 1; have f1' : w'.frozen? ⟨tb, 1, none⟩ = false := ht'.frozen 1; have HT' := Lib.hid ht'; have HF' := Lib.hid hf; clear ht' hf)
  all_goals (
    go_returns
    first
      | exact ⟨⟨_, rfl⟩, ⟨_, _, _, timSet0 HT.out _⟩, (Fr.refl (· = tb) _).setCell (fun _ => rfl) _⟩
      | exact ⟨⟨_, rfl⟩, ⟨_, _, _, timSet1 HT.out _⟩, (Fr.refl (· = tb) _).setCell (fun _ => rfl) _⟩
      | exact ⟨⟨_, rfl⟩, ⟨_, _, _, timSet1 HT'.out _⟩, HF'.out.setCell (fun _ => rfl) _⟩)
set_option maxRecDepth 100000 in
theorem round_any (d : Int) (w : World) : Calls Tryz.prog 151 #[.int .i64 d, .int .i64 900000000000] w fun e w' => (∃ n, e = .returned (.int .i64 n)) ∧ w = w' := by
  go_enter Tryz.func151, Tryz.ntmps151
  go_wp2
  all_goals (
    go_ret
    exact ⟨⟨_, rfl⟩, rfl⟩)
set_option maxRecDepth 100000 in
set_option maxHeartbeats 1000000 in
theorem fixedZone_any (s : ByteArray) (n : Int) (w : World) : Calls Tryz.prog 163 #[.string s, .int .i64 n] w fun e w' => (∃ b, e = .returned (.pointer (some ⟨b, 0, none⟩)) ∧ b < w'.heap.size ∧ w'.cell? ⟨b, 0, none⟩ = some (.bool false)) ∧ Below w.heap.size w w' := by
  go_enter Tryz.func163, Tryz.ntmps163
  go_wp2
  go_ret
  refine ⟨⟨w.heap.size + 1 + 1, rfl, ?_, ?_⟩, by go_grown⟩
  · exact (Blk.new' _ _ (by rw [World.size_alloc, World.size_alloc])).lt
  · exact (Blk.new' _ _ (by rw [World.size_alloc, World.size_alloc])).cell 0
set_option maxRecDepth 100000 in
theorem timeZone_any (n : Int) (w : World) : Calls Tryz.prog 125 #[.int .i64 n] w fun e w' => (∃ b, e = .returned (.pointer (some ⟨b, 0, none⟩)) ∧ b < w'.heap.size ∧ w'.cell? ⟨b, 0, none⟩ = some (.bool false)) ∧ Below w.heap.size w w' := by
  go_enter Tryz.func125, Tryz.ntmps125
  go_wp2_with (first
    | (go_at_call 151; refine (round_any _ _).mono ?_; rintro e w' ⟨⟨m, rfl⟩, rfl⟩)
    | (go_at_call 152; go_in)
    | (go_at_call 163; refine (fixedZone_any _ _ _).mono ?_; rintro e w1 ⟨⟨b, rfl, hb, hc⟩, hbl⟩; have HB := Lib.hid hb; have HC := Lib.hid hc; have HBL := Lib.hid hbl; clear hb hc hbl))
  all_goals (
    go_ret
    exact ⟨⟨_, rfl, HB.out, HC.out⟩, HBL.out⟩)
set_option maxRecDepth 100000 in
set_option maxHeartbeats 1000000 in
theorem in_any (wall ext : Int) (loc : Option Addr) (b : Nat) (u : Bool) (w : World) (hb : b < w.heap.size) (hL : w.cell? ⟨b, 0, none⟩ = some (.bool u)) : Calls Tryz.prog 124 #[timv wall ext loc, .pointer (some ⟨b, 0, none⟩)] w fun e w' => (∃ wall ext loc, e = .returned (timv wall ext loc)) ∧ Below w.heap.size w w' := by
  go_enter Tryz.func124, Tryz.ntmps124
  have HL := Lib.hid hL
  clear hL
  go_wp2_with fail
  refine (setLoc_any w.heap.size b wall ext loc u _ ((Blk.new w _ _).alloc _) (by rw [((Below.refl w.heap.size w).alloc (Nat.le_refl _) _ |>.alloc (by rw [World.size_alloc]; omega) _).cell (p := ⟨b, 0, none⟩) hb]; exact HL.out)).mono ?_
  rintro e w2 ⟨⟨v, rfl⟩, ⟨wall', ext', loc', ht⟩, hf⟩
  have h2 : Blk w2 (w.heap.size + 1) #[.int .u64 0, .int .i64 0, .pointer none] 74 := hf.blk (Blk.new' _ _ (by simp)) (by omega)
  have HT := Lib.hid ht
  have H2 := Lib.hid h2
  have HF2 := Lib.hid hf
  clear ht h2 hf
  go_wp2_with (first
    | (refine wpList_load_mid rfl 74 _ rfl w.heap.size 0 rfl [.int .u64 wall', .int .i64 ext', .pointer loc'] _ (HT.out.range rfl) Tryz.underlying74 rfl (by kernel_rfl) ?_)
    | (refine wpList_store_blk rfl 74 _ _ rfl (w.heap.size + 1) _ #[.int .u64 wall', .int .i64 ext', .pointer loc'] 74 H2.out rfl rfl (by kernel_rfl) rfl rfl ?_; intro hst hfr; have HST := Lib.hid hst; have HFR := Lib.hid hfr; clear hst hfr))
  refine bodyPost_cell rfl (w.heap.size + 1) 0 [.int .u64 wall', .int .i64 ext', .pointer loc'] rfl (HST.out.range rfl) Tryz.underlying74 rfl (by kernel_rfl) rfl ⟨⟨_, _, _, rfl⟩, ?_⟩
  have hz2 := HF2.out.size
  simp only [World.size_alloc] at hz2
  exact ((((Below.refl _ _).alloc (Nat.le_refl _) _).alloc (by rw [World.size_alloc]; omega) _).trans (HF2.out.below (by rw [World.size_alloc, World.size_alloc]; omega) (fun i hi e => by omega))).trans (HFR.out.below (by omega) (fun i hi e => by omega))
set_option maxRecDepth 100000 in
set_option maxHeartbeats 1000000 in
theorem utcTime_any (wall ext : Int) (loc : Option Addr) (w : World) : Calls Tryz.prog 123 #[timv wall ext loc] w fun e w' => (∃ wall ext loc, e = .returned (timv wall ext loc)) ∧ Below w.heap.size w w' := by
  go_enter Tryz.func123, Tryz.ntmps123
  go_wp2_with fail
  refine (utc_any _).mono ?_
  rintro e w1 ⟨rfl, hl, hb⟩
  simp only [World.size_alloc] at hl
  have hz1 : w.heap.size + 2 ≤ w1.heap.size := by have := hb.size; simpa using this
  have HL := Lib.hid hl
  have HB := Lib.hid hb
  clear hl hb
  go_wp2_with fail
  refine (setLoc_any w.heap.size (w.heap.size + 1 + 1) wall ext loc true _ (below_blk HB.out ((Blk.new w _ _).alloc _)) (HL.out.cell 0)).mono ?_
  rintro e w2 ⟨⟨v, rfl⟩, ⟨wall', ext', loc', ht⟩, hf⟩
  have h2 : Blk w2 (w.heap.size + 1) #[.int .u64 0, .int .i64 0, .pointer none] 74 := hf.blk (below_blk HB.out (Blk.new' _ _ (by simp))) (by omega)
  have HT := Lib.hid ht
  have H2 := Lib.hid h2
  have HF2 := Lib.hid hf
  clear ht h2 hf
  go_wp2_with (first
    | (refine wpList_load_mid rfl 74 _ rfl w.heap.size 0 rfl [.int .u64 wall', .int .i64 ext', .pointer loc'] _ (HT.out.range rfl) Tryz.underlying74 rfl (by kernel_rfl) ?_)
    | (refine wpList_store_blk rfl 74 _ _ rfl (w.heap.size + 1) _ #[.int .u64 wall', .int .i64 ext', .pointer loc'] 74 H2.out rfl rfl (by kernel_rfl) rfl rfl ?_; intro hst hfr; have HST := Lib.hid hst; have HFR := Lib.hid hfr; clear hst hfr))
  refine bodyPost_cell rfl (w.heap.size + 1) 0 [.int .u64 wall', .int .i64 ext', .pointer loc'] rfl (HST.out.range rfl) Tryz.underlying74 rfl (by kernel_rfl) rfl ⟨⟨_, _, _, rfl⟩, ?_⟩
  have hz2 := HF2.out.size
  exact ((below_up (((Below.refl _ _).alloc (Nat.le_refl _) _).alloc (by rw [World.size_alloc]; omega) _) HB.out).trans (HF2.out.below (by omega) (fun i hi e => by omega))).trans (HFR.out.below (by omega) (fun i hi e => by omega))
set_option maxRecDepth 100000 in
theorem tUnix_any (wall ext : Int) (loc : Option Addr) (w : World) : Calls Tryz.prog 73 #[timv wall ext loc] w fun e w' => (∃ n, e = .returned (.int .i64 n)) ∧ Below w.heap.size w w' := by
  go_enter Tryz.func73, Tryz.ntmps73
  go_wp2_with (first | (go_at_call 105; go_in) | (go_at_call 140; refine (sec_any w.heap.size wall ext loc _ (Blk.new w _ _)).mono ?_; rintro e w' ⟨⟨n, rfl⟩, rfl⟩))
  go_ret
  exact ⟨⟨_, rfl⟩, by go_grown⟩
set_option maxRecDepth 100000 in
set_option maxHeartbeats 1000000 in
theorem msdos_any (a b : Int) (w : World) : Calls Tryz.prog 122 #[.int .u16 a, .int .u16 b] w fun e w' => (∃ wall ext loc, e = .returned (timv wall ext loc)) ∧ Below w.heap.size w w' := by
  go_enter Tryz.func122, Tryz.ntmps122
  go_wp2_with fail
  refine (utc_any _).mono ?_
  rintro e w1 ⟨rfl, hl, hb⟩
  simp only [World.size_alloc] at hl
  have hz1 : w.heap.size + 1 ≤ w1.heap.size := by have := hb.size; simpa using this
  have HL := Lib.hid hl
  have HB := Lib.hid hb
  clear hl hb
  go_wp2_with fail
  refine (date_any _ _ _ _ _ _ _ _ HL.out).mono ?_
  rintro e w2 ⟨⟨wall', ext', loc', rfl⟩, hb2⟩
  have h2 : Blk w2 w.heap.size #[.int .u64 0, .int .i64 0, .pointer none] 74 := below_blk hb2 (below_blk HB.out (Blk.new w _ _))
  have H2 := Lib.hid h2
  have HB2 := Lib.hid hb2
  have hz2 := hb2.size
  clear h2 hb2
  go_wp2_with (refine wpList_store_blk rfl 74 _ _ rfl w.heap.size _ #[.int .u64 wall', .int .i64 ext', .pointer loc'] 74 H2.out rfl rfl (by kernel_rfl) rfl rfl ?_; intro hst hfr; have HST := Lib.hid hst; have HFR := Lib.hid hfr; clear hst hfr)
  refine bodyPost_cell rfl w.heap.size 0 [.int .u64 wall', .int .i64 ext', .pointer loc'] rfl (HST.out.range rfl) Tryz.underlying74 rfl (by kernel_rfl) rfl ⟨⟨_, _, _, rfl⟩, ?_⟩
  exact (below_up (below_up ((Below.refl _ _).alloc (Nat.le_refl _) _) HB.out) HB2.out).trans (HFR.out.below (by omega) (fun i hi e => by omega))
def SomeBool (w : World) (e : Ending) (w' : World) : Prop := (∃ x, e = .returned (.bool x)) ∧ Below w.heap.size w w'
set_option maxRecDepth 100000 in
set_option maxHeartbeats 1000000 in
theorem equal_any (a b a' b' : Int) (l l' : Option Addr) (w : World) : Calls Tryz.prog 156 #[timv a b l, timv a' b' l'] w (SomeBool w) := by
  go_enter Tryz.func156, Tryz.ntmps156
  have h1 : Hid (IsTim ((w.alloc (.cells #[.int .u64 a, .int .i64 b, .pointer l] 74)).alloc (.cells #[.int .u64 a', .int .i64 b', .pointer l'] 74)) w.heap.size a b l) := Lib.hid ((Blk.new w _ _).alloc _)
  have h2 : Hid (IsTim ((w.alloc (.cells #[.int .u64 a, .int .i64 b, .pointer l] 74)).alloc (.cells #[.int .u64 a', .int .i64 b', .pointer l'] 74)) (w.heap.size + 1) a' b' l') := Lib.hid (Blk.new' _ _ (by simp))
  go_wp2_with (first
    | (go_at_call_of 140 (Value.pointer (some (Addr.mk w.heap.size 0 none))); refine (sec_any _ _ _ _ _ h1.out).mono ?_; rintro e w' ⟨⟨n, rfl⟩, rfl⟩)
    | (go_at_call 140; refine (sec_any _ _ _ _ _ h2.out).mono ?_; rintro e w' ⟨⟨n, rfl⟩, rfl⟩)
    | (go_at_call_of 154 (Value.pointer (some (Addr.mk w.heap.size 0 none))); refine (nsec_any _ _ _ _ _ h1.out).mono ?_; rintro e w' ⟨⟨n, rfl⟩, rfl⟩)
    | (go_at_call 154; refine (nsec_any _ _ _ _ _ h2.out).mono ?_; rintro e w' ⟨⟨n, rfl⟩, rfl⟩))
  · go_ret
    refine ⟨?_, ?_⟩
    · exact ⟨_, rfl⟩
    · go_grown
  · go_ret
    refine ⟨?_, ?_⟩
    · exact ⟨_, rfl⟩
    · go_grown
  · go_ret
    refine ⟨?_, ?_⟩
    · exact ⟨_, rfl⟩
    · go_grown
set_option maxRecDepth 100000 in
set_option maxHeartbeats 1000000 in
theorem before_any (a b a' b' : Int) (l l' : Option Addr) (w : World) : Calls Tryz.prog 157 #[timv a b l, timv a' b' l'] w (SomeBool w) := by
  go_enter Tryz.func157, Tryz.ntmps157
  have h1 : Hid (IsTim ((w.alloc (.cells #[.int .u64 a, .int .i64 b, .pointer l] 74)).alloc (.cells #[.int .u64 a', .int .i64 b', .pointer l'] 74)) w.heap.size a b l) := Lib.hid ((Blk.new w _ _).alloc _)
  have h2 : Hid (IsTim ((w.alloc (.cells #[.int .u64 a, .int .i64 b, .pointer l] 74)).alloc (.cells #[.int .u64 a', .int .i64 b', .pointer l'] 74)) (w.heap.size + 1) a' b' l') := Lib.hid (Blk.new' _ _ (by simp))
  go_wp2_with (first
    | (go_at_call_of 140 (Value.pointer (some (Addr.mk w.heap.size 0 none))); refine (sec_any _ _ _ _ _ h1.out).mono ?_; rintro e w' ⟨⟨n, rfl⟩, rfl⟩)
    | (go_at_call 140; refine (sec_any _ _ _ _ _ h2.out).mono ?_; rintro e w' ⟨⟨n, rfl⟩, rfl⟩)
    | (go_at_call_of 154 (Value.pointer (some (Addr.mk w.heap.size 0 none))); refine (nsec_any _ _ _ _ _ h1.out).mono ?_; rintro e w' ⟨⟨n, rfl⟩, rfl⟩)
    | (go_at_call 154; refine (nsec_any _ _ _ _ _ h2.out).mono ?_; rintro e w' ⟨⟨n, rfl⟩, rfl⟩))
  all_goals (
    go_ret
    refine ⟨?_, ?_⟩
    · exact ⟨_, rfl⟩
    · go_grown)
end Go.Proofs.Zip
