/- A part of a proof over the given program: Plu, Nu, Er. Nothing is assumed here. -/
import Derived.Test.YtiipmnaonidojaaGreatDoorZV
import Derived.Test.YtiipmnaonidojaaGreatDoorZF
import Derived.Lib.DecodeN
import Derived.Test.YtiipmnaonidojaaGreatDoorZQ
import Derived.Test.YtiipmnaonidojaaGreatDoorZT
namespace Go.Proofs.Zip
open Go Go.RowKit
theorem finL2 (l : List UInt8) (c low : Nat) : finL l 2 c low = if l.length < 2 then 0 else if 128 ≤ byteAt l 1 ∧ byteAt l 1 ≤ 191 then (if c * 64 + byteAt l 1 - 128 < low ∨ 1114111 < c * 64 + byteAt l 1 - 128 ∨ (55296 ≤ c * 64 + byteAt l 1 - 128 ∧ c * 64 + byteAt l 1 - 128 ≤ 57343) then 0 else 2) else 0 := by
  unfold finL
  by_cases h : l.length < 2
  · rw [if_pos h, if_pos h]
  · rw [if_neg h, if_neg h]
    by_cases h1 : 128 ≤ byteAt l 1 ∧ byteAt l 1 ≤ 191
    · simp only [contL, if_pos h1]
    · simp only [contL, if_neg h1]
theorem finL3 (l : List UInt8) (c low : Nat) : finL l 3 c low = if l.length < 3 then 0 else if 128 ≤ byteAt l 1 ∧ byteAt l 1 ≤ 191 then (if 128 ≤ byteAt l 2 ∧ byteAt l 2 ≤ 191 then (if (c * 64 + byteAt l 1 - 128) * 64 + byteAt l 2 - 128 < low ∨ 1114111 < (c * 64 + byteAt l 1 - 128) * 64 + byteAt l 2 - 128 ∨ (55296 ≤ (c * 64 + byteAt l 1 - 128) * 64 + byteAt l 2 - 128 ∧ (c * 64 + byteAt l 1 - 128) * 64 + byteAt l 2 - 128 ≤ 57343) then 0 else 3) else 0) else 0 := by
  unfold finL
  by_cases h : l.length < 3
  · rw [if_pos h, if_pos h]
  · rw [if_neg h, if_neg h]
    by_cases h1 : 128 ≤ byteAt l 1 ∧ byteAt l 1 ≤ 191
    · by_cases h2 : 128 ≤ byteAt l 2 ∧ byteAt l 2 ≤ 191
      · simp only [contL, if_pos h1, if_pos h2]
      · simp only [contL, if_pos h1, if_neg h2]
    · simp only [contL, if_neg h1]
theorem finL4 (l : List UInt8) (c low : Nat) : finL l 4 c low = if l.length < 4 then 0 else if 128 ≤ byteAt l 1 ∧ byteAt l 1 ≤ 191 then (if 128 ≤ byteAt l 2 ∧ byteAt l 2 ≤ 191 then (if 128 ≤ byteAt l 3 ∧ byteAt l 3 ≤ 191 then (if ((c * 64 + byteAt l 1 - 128) * 64 + byteAt l 2 - 128) * 64 + byteAt l 3 - 128 < low ∨ 1114111 < ((c * 64 + byteAt l 1 - 128) * 64 + byteAt l 2 - 128) * 64 + byteAt l 3 - 128 ∨ (55296 ≤ ((c * 64 + byteAt l 1 - 128) * 64 + byteAt l 2 - 128) * 64 + byteAt l 3 - 128 ∧ ((c * 64 + byteAt l 1 - 128) * 64 + byteAt l 2 - 128) * 64 + byteAt l 3 - 128 ≤ 57343) then 0 else 4) else 0) else 0) else 0 := by
  unfold finL
  by_cases h : l.length < 4
  · rw [if_pos h, if_pos h]
  · rw [if_neg h, if_neg h]
    by_cases h1 : 128 ≤ byteAt l 1 ∧ byteAt l 1 ≤ 191
    · by_cases h2 : 128 ≤ byteAt l 2 ∧ byteAt l 2 ≤ 191
      · by_cases h3 : 128 ≤ byteAt l 3 ∧ byteAt l 3 ≤ 191
        · simp only [contL, if_pos h1, if_pos h2, if_pos h3]
        · simp only [contL, if_pos h1, if_pos h2, if_neg h3]
      · simp only [contL, if_pos h1, if_neg h2]
    · simp only [contL, if_neg h1]
set_option maxHeartbeats 4000000 in
/-- The first rune, as the specification counts it and as the library decodes it. -/
theorem rune_key (l : List UInt8) (r n : Nat) (hd : Lib.decodeN l.length (byteAt l 0) (byteAt l 1) (byteAt l 2) (byteAt l 3) = (r, n)) :
    (rune1L l = 0 ∧ r = 65533 ∧ n = 1) ∨ (rune1L l = n ∧ n ≠ 0 ∧ ((r < 55296 ∨ 57343 < r) ∧ r ≤ 1114111) ∧ (n = 1 → r = byteAt l 0 ∧ r < 128) ∧ (n ≠ 1 → 128 ≤ r)) := by
  have h0 := byteAt_lt l 0
  have h1 := byteAt_lt l 1
  have h2 := byteAt_lt l 2
  have h3 := byteAt_lt l 3
  revert hd
  unfold rune1L Lib.decodeN
  simp only [finL2, finL3, finL4]
  generalize byteAt l 0 = b0 at *
  generalize byteAt l 1 = b1 at *
  generalize byteAt l 2 = b2 at *
  generalize byteAt l 3 = b3 at *
  generalize l.length = m
  intro hd
  by_cases c1 : b0 < 128
  · rw [if_pos c1] at hd ⊢
    simp only [Prod.mk.injEq] at hd
    omega
  · rw [if_neg c1] at hd ⊢
    repeat' split at hd
    all_goals (simp only [Prod.mk.injEq] at hd; obtain ⟨rfl, rfl⟩ := hd)
    all_goals (repeat' split)
    all_goals omega
theorem decodeGo_key (l : List UInt8) (h : l ≠ []) : Lib.decodeGo (B l) = Lib.decodeN l.length (byteAt l 0) (byteAt l 1) (byteAt l 2) (byteAt l 3) := by
  have hs : ¬ (B l).size = 0 := by simpa using h
  have hg : ∀ i, ((B l).get! i).toNat = byteAt l i := fun i => by
    show (l.toArray[i]!).toNat = _
    simp [byteAt]
    rfl
  unfold Lib.decodeGo
  rw [if_neg hs, Lib.decode_at, hg, hg, hg, hg, size_B]
  rfl
theorem valid_detect (m : Nat) : ∀ (l : List UInt8) (q : Bool), validN m l q = detectN m l q := by
  induction m with
  | zero => intro l q; rfl
  | succ m ih =>
    intro l q
    rw [validN, detectN]
    by_cases hl : l = []
    · rw [if_pos hl, if_pos hl]
    · rw [if_neg hl, if_neg hl]
      obtain ⟨r, n, hd⟩ : ∃ r n, Lib.decodeGo (B l) = (r, n) := ⟨_, _, rfl⟩
      have hk := rune_key l r n (by rw [← decodeGo_key l hl]; exact hd)
      rw [hd]
      simp only []
      rcases hk with ⟨h0, hr, hn⟩ | ⟨h0, hn, hv, h1, h2⟩
      · rw [if_pos h0, if_pos (by omega), if_pos (.inr ⟨hr, hn⟩)]
      · have hvr : Lib.validRune (r : Int) = true := by unfold Lib.validRune; rw [decide_eq_true_eq]; omega
        rw [if_neg (by omega), h0, ih]
        by_cases hc : r < 32 ∨ r > 125 ∨ r = 92
        · have ho : oddB n (byteAt l 0) = true := by
            simp only [oddB, Bool.or_eq_true, decide_eq_true_eq, beq_iff_eq]
            omega
          rw [if_pos hc, if_neg (by rw [hvr]; rintro (h | h) <;> first | omega | cases h), ho, Bool.or_true]
        · have ho : oddB n (byteAt l 0) = false := by
            simp only [oddB, Bool.or_eq_false_iff, decide_eq_false_iff_not, beq_eq_false_iff_ne]
            omega
          rw [if_neg hc, ho, Bool.or_false]
theorem validL_detect (l : List UInt8) : validL l = detect l := valid_detect _ _ _
end Go.Proofs.Zip
namespace Go.Proofs.Zip
open Go Go.RowKit
theorem bit2048 (n : Nat) (h : n ≤ 65535) : (bits .and .u16 (n : Int) 2048 == 0) = ((n : Int) / 2048 % 2 == 0) := by
  rw [show (2048 : Int) = ((2048 : Nat) : Int) from rfl, u16_and_nat n 2048 (by omega) (by decide)]
  have h1 : (n &&& 2048 = 0) ↔ n / 2048 % 2 = 0 := by
    have e : n.testBit 11 = decide (n / 2 ^ 11 % 2 = 1) := Nat.testBit_eq_decide_div_mod_eq
    have p : (2 : Nat) ^ 11 = 2048 := rfl
    rw [p] at e
    constructor
    · intro h0
      have h2 : (n &&& 2048).testBit 11 = false := by rw [h0]; exact Nat.zero_testBit _
      rw [Nat.testBit_and, e] at h2
      have h3 : (2048 : Nat).testBit 11 = true := by decide
      rw [h3, Bool.and_true, decide_eq_false_iff_not] at h2
      omega
    · intro h0
      apply Nat.eq_of_testBit_eq
      intro i
      rw [Nat.testBit_and, Nat.zero_testBit]
      by_cases hi : i = 11
      · subst hi
        rw [e, show decide (n / 2048 % 2 = 1) = false by rw [decide_eq_false_iff_not]; omega]
        rfl
      · rw [show (2048 : Nat) = 2 ^ 11 from rfl, Nat.testBit_two_pow, show decide (11 = i) = false by rw [decide_eq_false_iff_not]; omega, Bool.and_false]
  rw [Bool.eq_iff_iff, beq_iff_eq, beq_iff_eq]
  omega
theorem non_same {h : H} (hf : 0 ≤ h.flags ∧ h.flags ≤ 65535) : nonB h = nonU h := by
  obtain ⟨n, hn⟩ := Int.eq_ofNat_of_zero_le hf.1
  unfold nonB nonU nonOf
  rw [hn, bit2048 n (by omega), validL_detect, validL_detect]
  generalize (detect h.name).1 = a
  generalize (detect h.name).2 = b
  generalize (detect h.comment).1 = c
  generalize (detect h.comment).2 = d
  cases a <;> cases b <;> cases c <;> cases d <;> rfl
end Go.Proofs.Zip
namespace Go.Proofs.Zip
open Go Go.RowKit
theorem hrows_at (es : List H) (k : Nat) (e : H) (h : es[k]? = some e) : ((hrows es).drop (k * 14)).take 14 = e.cells := by
  induction es generalizing k with
  | nil => simp at h
  | cons x es ih =>
    cases k with
    | zero => simp at h; subst h; simp [hrows]
    | succ k =>
      have hr : hrows (x :: es) = x.cells ++ hrows es := by simp [hrows]
      rw [hr, show (k + 1) * 14 = 14 + k * 14 by omega, ← List.drop_drop]
      have : List.drop 14 (x.cells ++ hrows es) = hrows es := by simp
      rw [this]; exact ih k (by simpa using h)
/-- A row of entries that the call owns reads as a list. -/
theorem isHdrs_own {w : World} {base : Nat} {v : Value} {es : List H} {T : TypeId} (h : w.ownsRow base T 14 v es.length (hrows es)) : IsHdrs w v es := by
  obtain ⟨_, h⟩ := h
  rcases h with ⟨rfl, h0⟩ | ⟨g, cap, cur, rfl, hg, hh, hc, hm, hsz, htk⟩
  · exact ⟨none, 0, by rw [h0], fun hne => absurd (List.eq_nil_of_length_eq_zero h0) hne⟩
  · refine ⟨_, cap, rfl, fun hne => ⟨g, 0, rfl, (Array.getElem?_eq_some_iff.1 hh).1, fun k e he j v hv => ?_⟩⟩
    have hk : k < es.length := (List.getElem?_eq_some_iff.1 he).1
    have hj : j < 14 := by have := (List.getElem?_eq_some_iff.1 hv).1; simpa using this
    have e1 := hrows_at es k e he
    have e2 := congrArg (·[j]?) e1
    simp only [List.getElem?_take, hj, if_true, List.getElem?_drop] at e2
    rw [hv, ← htk] at e2
    unfold World.cell?; simp only []; rw [hh]
    simp only [List.getElem?_take] at e2
    rw [if_pos (by omega)] at e2
    simpa [Nat.add_assoc] using e2

theorem told_list (es : List E) (h : es.all entryOk = true) : (hsOf es 0).map toldOf = es.map toldE := by
  apply List.ext_getElem?
  intro k
  rw [List.getElem?_map, List.getElem?_map]
  by_cases hk : k < es.length
  · have hok : entryOk es[k] = true := List.all_eq_true.1 h _ (List.getElem_mem hk)
    simp only [entryOk, Bool.and_eq_true] at hok
    rw [hsOf_get es 0 k hk, List.getElem?_eq_getElem hk]
    simp only [Option.map_some, toldOf, toldE]
    rw [non_same (HOk.of hok.1).flags]
  · rw [List.getElem?_eq_none (by rw [hsOf_length]; omega), List.getElem?_eq_none (by omega)]
    rfl
end Go.Proofs.Zip
