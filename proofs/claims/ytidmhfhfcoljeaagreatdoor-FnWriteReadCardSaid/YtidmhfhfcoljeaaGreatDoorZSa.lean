/- A part of a proof over the given program: ScA, ScP. Nothing is assumed here. -/
import Derived.Test.YtidmhfhfcoljeaaGreatDoorZS
import Derived.Test.YtidmhfhfcoljeaaGreatDoorZWc
import Derived.Deep.QuietTactic
namespace Go.Proofs.Zip
open Go Go.RowKit
/-! spec.Number, spec.At, spec.begin, spec.local, spec.content. -/
theorem leN_cons (l : List UInt8) (k : Nat) (h : k < l.length) : leN (l.drop k) = l[k].toNat + 256 * leN (l.drop (k + 1)) := by
  rw [List.drop_eq_getElem_cons h, leN]
theorem leN_small (l : List UInt8) (h : l.length ≤ 4) : leN l < 4294967296 := by
  have h1 := leN_lt l
  have h2 : 256 ^ l.length ≤ 256 ^ 4 := Nat.pow_le_pow_right (by decide) h
  omega
set_option maxRecDepth 100000 in
set_option maxHeartbeats 1000000 in
theorem number_any (l : List UInt8) (w : World) (hl : l.length ≤ 4) : Calls Tryz.prog 47 #[.string (B l)] w fun e w' => e = .returned (.int .i64 (leN l)) ∧ w = w' := by
  go_enter Tryz.func47, Tryz.ntmps47
  go_wp2
  go_loopw [3, 4] (fun t3 t4 wr => ∃ k : Nat, t4 = .int .i64 ((k : Int) - 1) ∧ t3 = .int .i64 (leN (l.drop k)) ∧ k ≤ l.length ∧ wr = w) (fun _ t4 _ => (intOf t4 + 1).toNat)
  case atStart => exact ⟨l.length, rfl, by simp [leN], Nat.le_refl _, rfl⟩
  case round =>
    obtain ⟨k, rfl, rfl, hk, rfl⟩ := hrel
    by_cases h0 : k = 0
    · subst h0
      go_wp2
      go_ret
      exact ⟨by simp, rfl⟩
    · obtain ⟨j, rfl⟩ : ∃ j, k = j + 1 := ⟨k - 1, by omega⟩
      have hj : j < l.length := by omega
      have hc := leN_cons l j hj
      have hs := leN_small (l.drop j) (by rw [List.length_drop]; omega)
      have hs2 := leN_small (l.drop (j + 1)) (by rw [List.length_drop]; omega)
      have hb : (l[j]).toNat < 256 := UInt8.toNat_lt _
      have hj1 : ((j + 1 : Nat) : Int) - 1 = (j : Int) := by omega
      rw [hj1]
      have HC := Lib.hid hc
      clear hc hj1 h0
      go_wp2
      exact ⟨⟨j, by go_num, by rw [HC.out]; go_num, by omega, trivial⟩, by simp [intOf]⟩
/-- Whether a text stands in another one at a place. -/
def atB (l : List UInt8) (a : Nat) (p : List UInt8) : Bool := decide (a + p.length ≤ l.length) && (List.take p.length (List.drop a l) == p)
set_option maxRecDepth 100000 in
theorem at_any (l p : List UInt8) (a : Nat) (w : World) (hl : l.length ≤ 4611686018427387904) (ha : a ≤ 2305843009213693952) (hp : p.length ≤ 2305843009213693952) :
    Calls Tryz.prog 46 #[.string (B l), .int .i64 a, .string (B p)] w fun r w' => r = .returned (.bool (atB l a p)) ∧ w = w' := by
  go_enter Tryz.func46, Tryz.ntmps46
  by_cases h : a + p.length ≤ l.length
  · have h' : ((a : Int) + (p.length : Int) ≤ (l.length : Int)) := by omega
    have HA : Hid (atB l a p = (List.take p.length (List.drop a l) == p)) := Lib.hid (by unfold atB; simp [h])
    go_wp2
    go_ret
    refine ⟨?_, rfl⟩
    rw [HA.out]
    first | rfl | simp
  · have h' : ¬ ((a : Int) + (p.length : Int) ≤ (l.length : Int)) := by omega
    have HA : Hid (atB l a p = false) := Lib.hid (by unfold atB; simp [h])
    go_wp2
    go_ret
    exact ⟨by rw [HA.out]; rfl, rfl⟩
end Go.Proofs.Zip
namespace Go.Proofs.Zip
open Go Go.RowKit
/-! What spec.Scan finds in an archive of pieces: plain. -/
/-- A record: a header that is told, the place of its local header, its content. -/
abbrev recCells (h : H) (off : Nat) (data : List UInt8) : List Value := [.string (B h.name), .string (B h.comment), .string (B h.extra), .bool h.non, .int .i64 h.creator, .int .i64 h.reader, .int .i64 h.flags, .int .i64 h.method, .int .i64 h.time, .int .i64 h.date, .int .i64 h.crc, .int .i64 h.packed, .int .i64 h.size, .int .i64 h.ext, .int .i64 off, .string (B data)]
theorem sizeRec : (Tryz.prog.info? 50).map (·.size) = some 16 := by kernel_rfl
/-- What is told of a header in a directory. -/
abbrev scanH (h : H) : H := { h with non := false }
/-- The cells of the records of pieces. -/
def recsP : List Pc → Nat → List Value
  | [], _ => []
  | p :: ps, a => recCells (scanH p.hdr) a p.data ++ recsP ps (a + p.text.length)
theorem recsP_snoc (xs : List Pc) (p : Pc) : ∀ a, recsP (xs ++ [p]) a = recsP xs a ++ recCells (scanH p.hdr) (a + (pcsL xs).length) p.data := by
  induction xs with
  | nil => intro a; simp [recsP, pcsL]
  | cons q xs ih =>
    intro a
    rw [List.cons_append, recsP, recsP, ih, pcsL_cons, List.length_append, List.append_assoc, Nat.add_assoc]
theorem recsP_take (ps : List Pc) (k : Nat) (h : k < ps.length) : recsP (ps.take (k + 1)) 0 = recsP (ps.take k) 0 ++ recCells (scanH ps[k].hdr) (pcsL (ps.take k)).length ps[k].data := by
  rw [List.take_succ_eq_append_getElem h, recsP_snoc, Nat.zero_add]
theorem atB_iff (l : List UInt8) (i : Nat) : atB l i [80, 75, 5, 6] = true ↔ sigAt l i := by
  rw [sigAt_iff]
  unfold atB sigEnd
  rw [Bool.and_eq_true, decide_eq_true_eq, beq_iff_eq]
  constructor
  · exact fun h => h.2
  · intro h
    refine ⟨?_, h⟩
    have h1 := congrArg List.length h
    rw [List.length_take, List.length_drop] at h1
    simp at h1 ⊢
    omega
theorem e22_f8 (many size at_ clen : Nat) (h1 : many ≤ 65535) : n2 (end22 many size at_ clen) 8 = many := by
  have e : ∀ n : Int, ∃ a b, leB 2 n = [a, b] := fun n => ⟨_, _, rfl⟩
  have e' : ∀ n : Int, ∃ a b c d, leB 4 n = [a, b, c, d] := fun n => ⟨_, _, _, _, rfl⟩
  obtain ⟨a0, b0, q0⟩ := e 0
  obtain ⟨a1, b1, q1⟩ := e many
  obtain ⟨a2, b2, c2, d2, q2⟩ := e' size
  obtain ⟨a3, b3, c3, d3, q3⟩ := e' at_
  obtain ⟨a4, b4, q4⟩ := e clen
  have hL : end22 many size at_ clen = [80, 75, 5, 6, a0, b0, a0, b0, a1, b1, a1, b1, a2, b2, c2, d2, a3, b3, c3, d3, a4, b4] := by
    unfold end22; rw [q0, q1, q2, q3, q4]; rfl
  have h2 := leN_leB2 many (by omega) (by omega)
  rw [q1] at h2
  rw [n2, hL]
  exact Int.ofNat.inj h2
/-- The end of an archive, as Scan reads it. -/
structure ScanEnd (D : List UInt8) (N F size many : Nat) (c : List UInt8) : Prop where
  len : D.length = N + 22 + c.length
  add : F + size = N
  sig : atB D N [80, 75, 5, 6] = true
  other : ∀ i, N < i → atB D i [80, 75, 5, 6] = false
  f8 : leN ((D.drop (N + 8)).take 2) = many
  f10 : leN ((D.drop (N + 10)).take 2) = many
  f12 : leN ((D.drop (N + 12)).take 4) = size
  f16 : leN ((D.drop (N + 16)).take 4) = F
  f20 : leN ((D.drop (N + 20)).take 2) = c.length
  tail : D.drop (N + 22) = c
theorem PcsOk.scan {ps : List Pc} {c : List UInt8} (h : PcsOk ps c) : ScanEnd (arcP ps c) ((pcsL ps).length + (catL (hsP ps 0)).length) (pcsL ps).length (catL (hsP ps 0)).length ps.length c := by
  have hL := h.lay
  have hs := hL.sig
  have hlen := hL.len
  have he := hL.atEnd
  have k8 := hL.n2 8 (by omega)
  have k10 := hL.n2 10 (by omega)
  have k12 := hL.n4 12 (by omega)
  have k16 := hL.n4 16 (by omega)
  have k20 := hL.n2 20 (by omega)
  rw [e22_f8 _ _ _ _ (by have := h.len; omega)] at k8
  rw [hL.ebytes.f10] at k10
  rw [hL.ebytes.f12] at k12
  rw [hL.ebytes.f16] at k16
  rw [hL.ebytes.f20] at k20
  simp only [List.length_nil, Nat.zero_add, Nat.add_zero] at hs hlen he k8 k10 k12 k16 k20
  refine ⟨by omega, rfl, (atB_iff _ _).2 hs, ?_, k8, k10, k12, k16, k20, ?_⟩
  · intro i hi
    cases hq : atB (arcP ps c) i [80, 75, 5, 6] with
    | false => rfl
    | true =>
      have := sig_once (by rw [h.once]; exact Nat.le_refl 1) ((atB_iff _ _).1 hq) hs
      omega
  · rw [← List.drop_drop, he, drop_len_append _ _ _ (end22_len _ _ _ _).symm, List.append_nil]
theorem arcP_take (ps : List Pc) (c : List UInt8) : (arcP ps c).take ((pcsL ps).length + (catL (hsP ps 0)).length) = pcsL ps ++ catL (hsP ps 0) := by
  rw [arcP, ← List.append_assoc, ← List.length_append, List.take_left]
theorem cen_pcs (ps : List Pc) (c : List UInt8) {k : Nat} (hk : k < ps.length) : ((arcP ps c).take ((pcsL ps).length + (catL (hsP ps 0)).length)).drop ((pcsL ps).length + (catL ((hsP ps 0).take k)).length) = centralL ps[k].hdr ((pcsL (ps.take k)).length : Nat) ++ catL ((hsP ps 0).drop (k + 1)) := by
  have hx := hsP_get ps 0 k hk
  have hk' : k < (hsP ps 0).length := by rw [hsP_length]; exact hk
  have e : catL (hsP ps 0) = catL ((hsP ps 0).take k) ++ catL ((hsP ps 0).drop k) := by rw [← catL_append, List.take_append_drop]
  rw [arcP_take, ← List.drop_drop, List.drop_left, e, List.drop_left, List.drop_eq_getElem_cons hk', catL_cons]
  rw [List.getElem?_eq_getElem hk', Nat.zero_add] at hx
  rw [Option.some.inj hx]
/-- The place of the next header in the directory. -/
theorem cen_next (ps : List Pc) {k : Nat} (hk : k < ps.length) : (catL ((hsP ps 0).take (k + 1))).length = (catL ((hsP ps 0).take k)).length + (46 + ps[k].hdr.name.length + ps[k].hdr.extra.length + ps[k].hdr.comment.length) := by
  have hx := hsP_get ps 0 k hk
  have hk' : k < (hsP ps 0).length := by rw [hsP_length]; exact hk
  rw [List.getElem?_eq_getElem hk'] at hx
  rw [List.take_succ_eq_append_getElem hk', catL_append, List.length_append, Option.some.inj hx, catL_cons, List.length_append, length_centralL]
  simp [catL]
end Go.Proofs.Zip
