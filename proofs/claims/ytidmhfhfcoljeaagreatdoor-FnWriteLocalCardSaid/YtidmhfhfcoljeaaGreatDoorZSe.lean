/- A part of a proof over the given program: ScL. Nothing is assumed here. -/
import Derived.Test.YtidmhfhfcoljeaaGreatDoorZSd
namespace Go.Proofs.Zip
open Go Go.RowKit
/-! The rows of the records that Scan finds. -/
theorem recsP_length (ps : List Pc) : ∀ a, (recsP ps a).length = ps.length * 16 := by
  induction ps with
  | nil => intro a; rfl
  | cons p ps ih =>
    intro a
    have e1 : (recCells (scanH p.hdr) a p.data).length = 16 := rfl
    have e2 : (p :: ps).length = ps.length + 1 := rfl
    rw [recsP, List.length_append, ih, e1, e2]
    omega
theorem recsP_at (ps : List Pc) : ∀ (a k : Nat) (h : k < ps.length) (j : Nat), j < 16 → (recsP ps a)[k * 16 + j]? = (recCells (scanH ps[k].hdr) (a + (pcsL (ps.take k)).length) ps[k].data)[j]? := by
  induction ps with
  | nil => intro a k h; simp at h
  | cons p ps ih =>
    intro a k h j hj
    have hl : (recCells (scanH p.hdr) a p.data).length = 16 := rfl
    cases k with
    | zero =>
      rw [recsP, List.getElem?_append_left (by omega), Nat.zero_mul, Nat.zero_add]
      simp [pcsL]
    | succ k =>
      have hk : k < ps.length := by simpa using h
      rw [recsP, List.getElem?_append_right (by omega), hl, show (k + 1) * 16 + j - 16 = k * 16 + j by omega, ih _ k hk j hj]
      simp only [List.getElem_cons_succ, List.take_succ_cons, pcsL_cons, List.length_append]
      rw [Nat.add_assoc]
/-- The cells of one record. -/
theorem recAt {w : World} {base : Nat} {v : Value} {ps : List Pc} (h : w.ownsRow base 50 16 v ps.length (recsP ps 0)) {k : Nat} (hk : k < ps.length) :
    ∃ g cap, v = .slice (some ⟨g, 0, none⟩) ps.length cap ∧ ps.length ≤ cap ∧ g < w.heap.size ∧ w.rangeAt g (k * 16) (recCells (scanH ps[k].hdr) (pcsL (ps.take k)).length ps[k].data) := by
  have h' := h
  obtain ⟨hl, ho⟩ := h
  rcases ho with ⟨_, h0⟩ | ⟨g, cap, cur, rfl, hg, hh, hc, hm, hsz, htk⟩
  · omega
  · refine ⟨g, cap, rfl, hc, (Array.getElem?_eq_some_iff.1 hh).1, fun j v hj => ?_⟩
    have hj16 : j < 16 := (List.getElem?_eq_some_iff.1 hj).1
    have := h'.cells (g := g) rfl (k * 16 + j) v (by rw [recsP_at ps 0 k hk j hj16, Nat.zero_add]; exact hj)
    rwa [add_at, Nat.zero_add] at this
/-- The places of the local headers go up. -/
theorem pcsL_up (ps : List Pc) (k : Nat) (h : k + 1 < ps.length) : (pcsL (ps.take k)).length + 30 ≤ (pcsL (ps.take (k + 1))).length := by
  rw [List.take_succ_eq_append_getElem (by omega : k < ps.length), pcsL_append, List.length_append]
  have : (pcsL [ps[k]]).length = ps[k].text.length := by simp [pcsL]
  rw [this, Pc.text, List.length_append, length_localL]
  omega
end Go.Proofs.Zip
