/- A part of a proof over the given program: Rune, Val, Non, Lst. Nothing is assumed here. -/
import Derived.Test.YtiipmnaonidojaaGreatDoorZF
import Derived.Test.YtiipmnaonidojaaGreatDoorZA
import Derived.Test.YtiipmnaonidojaaGreatDoorZB
import Derived.Test.YtiipmnaonidojaaGreatDoorZU
namespace Go.Proofs.Zip
open Go Go.RowKit
/-- The bytes behind the first one of a rune: what they tell, if they are such bytes. -/
def contL (l : List UInt8) : Nat → Nat → Nat → Option Nat
  | 0, _, c => some c
  | m + 1, k, c => if 128 ≤ byteAt l k ∧ byteAt l k ≤ 191 then contL l m (k + 1) (c * 64 + byteAt l k - 128) else none
def finL (l : List UInt8) (n c low : Nat) : Nat := if l.length < n then 0 else match contL l (n - 1) 1 c with
  | none => 0
  | some v => if v < low ∨ 1114111 < v ∨ (55296 ≤ v ∧ v ≤ 57343) then 0 else n
/-- How many bytes the first rune has, 0 if it is none. -/
def rune1L (l : List UInt8) : Nat :=
  if byteAt l 0 < 128 then 1
  else if 194 ≤ byteAt l 0 ∧ byteAt l 0 ≤ 223 then finL l 2 (byteAt l 0 - 192) 128
  else if 224 ≤ byteAt l 0 ∧ byteAt l 0 ≤ 239 then finL l 3 (byteAt l 0 - 224) 2048
  else if 240 ≤ byteAt l 0 ∧ byteAt l 0 ≤ 244 then finL l 4 (byteAt l 0 - 240) 65536
  else 0
set_option maxRecDepth 100000 in
set_option maxHeartbeats 2000000 in
theorem rune1_any (l : List UInt8) (w : World) (h0 : 0 < l.length) (hl : l.length ≤ 4611686018427387904) :
    Calls Tryz.prog 66 #[.string (B l)] w fun e w' => e = .returned (.int .i64 (rune1L l)) ∧ Below w.heap.size w w' := by
  have hidx : ∀ (k : Nat) (w : World), k < l.length → (Instr.index 9 (.string (B l)) (.int .i64 k)).run Tryz.prog w = .ok (.int .u8 (byteAt l k : Nat)) w := fun k w hk => by
    rw [run_index_string w 9 (B l) .i64 _ Tryz.underlying9]
    rw [dif_pos ⟨by omega, by rw [size_B]; omega⟩]
    simp only [get_B]
    simp [byteAt, hk]
  have hb0 := byteAt_lt l 0
  obtain ⟨c, hc⟩ : ∃ c, c = byteAt l 0 := ⟨_, rfl⟩
  have hi0 : ∀ w, (Instr.index 9 (.string (B l)) (.int .i64 0)).run Tryz.prog w = .ok (.int .u8 (c : Nat)) w := fun w => by rw [hc]; exact hidx 0 w h0
  have HI := Lib.hid hidx
  rw [← hc] at hb0
  have HC := Lib.hid hc
  have hwr : IntKind.i64.wrap (c : Int) = c := by rw [IntKind.wrap_i64]; omega
  clear hidx hc
  go_enter Tryz.func66, Tryz.ntmps66
  by_cases h1 : c < 128
  · have h1' : (c : Int) < 128 := by omega
    go_wp2
    go_ret
    exact ⟨by unfold rune1L; rw [← HC.out, if_pos h1]; rfl, Below.refl _ _⟩
  have h1' : ¬ (c : Int) < 128 := by omega
  by_cases h2 : 194 ≤ c ∧ c ≤ 223
  · have k2 : within (c : Int) 194 223 = true := by simp [within]; omega
    have HE : Hid (rune1L l = finL l 2 (c - 192) 128) := Lib.hid (by unfold rune1L; rw [← HC.out]; rw [if_neg h1, if_pos h2])
    have hsub : IntKind.i64.wrap ((c : Int) - 192) = ((c - 192 : Nat) : Int) := by rw [IntKind.wrap_i64]; omega
    have hcb : c - 192 < 32 := by omega
    have hsub2 : (c : Int) - 192 = ((c - 192 : Nat) : Int) := by omega
    generalize c - 192 = c1 at HE hsub hcb hsub2
    by_cases hln : l.length < 2
    · have hln' : (l.length : Int) < 2 := by omega
      go_wp2_with (go_at_call 48; refine (within_any _ _ _ _).mono ?_; rintro e wq ⟨rfl, rfl⟩)
      go_ret
      exact ⟨by rw [HE.out, finL, if_pos hln]; rfl, Below.refl _ _⟩
    · have hln' : ¬ (l.length : Int) < 2 := by omega
      go_wp2_with (go_at_call 48; refine (within_any _ _ _ _).mono ?_; rintro e wq ⟨rfl, rfl⟩)
      clear hi0 hwr k2 hsub hsub2
      go_loopw [6, 3] (fun t6 t3 wr => ∃ k c2 : Nat, t6 = .int .i64 k ∧ t3 = .int .i64 c2 ∧ 1 ≤ k ∧ k ≤ 2 ∧ c2 ≤ 8388607 ∧ Hid ((k = 1 ∧ c2 < 32) ∨ (k = 2 ∧ c2 < 2048) ∨ (k = 3 ∧ c2 < 131072) ∨ (k = 4 ∧ c2 < 8388608)) ∧ Hid (contL l (2 - 1) 1 c1 = contL l (2 - k) k c2) ∧ w = wr) (fun t6 _ _ => 2 - (intOf t6).toNat)
      case atStart => exact ⟨1, c1, rfl, rfl, by omega, by omega, by omega, Lib.hid (by omega), Lib.hid rfl, rfl⟩
      case round =>
        obtain ⟨k, c2, rfl, rfl, hk1, hk2, hc2, hbd, hcl, rfl⟩ := hrel
        by_cases hkn : k < 2
        · have hix := HI.out k w (by omega)
          have hb256 := byteAt_lt l k
          have hcs : contL l (2 - k) k c2 = if 128 ≤ byteAt l k ∧ byteAt l k ≤ 191 then contL l (2 - (k + 1)) (k + 1) (c2 * 64 + byteAt l k - 128) else none := by
            rw [show 2 - k = (2 - (k + 1)) + 1 by omega, contL]
          have HCS := Lib.hid hcs
          clear hcs
          generalize byteAt l k = b at hix hb256 HCS
          have hwb : IntKind.i64.wrap (b : Int) = b := by rw [IntKind.wrap_i64]; omega
          by_cases hbb : 128 ≤ b ∧ b ≤ 191
          · have kb : within (b : Int) 128 191 = true := by simp [within]; omega
            have hnew : c2 * 64 + b - 128 ≤ c2 * 64 + 63 := by omega
            have hsum : (c2 : Int) * 64 + b - 128 = ((c2 * 64 + b - 128 : Nat) : Int) := by omega
            have hbd2 : Hid ((k + 1 = 2 ∧ c2 * 64 + b - 128 < 2048) ∨ (k + 1 = 3 ∧ c2 * 64 + b - 128 < 131072) ∨ (k + 1 = 4 ∧ c2 * 64 + b - 128 < 8388608)) := Lib.hid (by have := hbd.out; omega)
            go_wp2_with (go_at_call 48; refine (within_any _ _ _ _).mono ?_; rintro e wq ⟨rfl, rfl⟩)
            exact ⟨⟨k + 1, c2 * 64 + b - 128, by go_num, by go_num, by omega, by omega, by have := hbd2.out; omega, Lib.hid (by have := hbd2.out; omega), Lib.hid (by rw [hcl.out, HCS.out, if_pos hbb]), trivial⟩, by simp [intOf]; omega⟩
          · have kb : within (b : Int) 128 191 = false := by simp [within]; omega
            go_wp2_with (go_at_call 48; refine (within_any _ _ _ _).mono ?_; rintro e wq ⟨rfl, rfl⟩)
            go_ret
            exact ⟨by rw [HE.out, finL, if_neg hln, hcl.out, HCS.out, if_neg hbb]; rfl, Below.refl _ _⟩
        · obtain rfl : k = 2 := by omega
          have HF : Hid (rune1L l = if c2 < 128 ∨ 1114111 < c2 ∨ (55296 ≤ c2 ∧ c2 ≤ 57343) then 0 else 2) := Lib.hid (by rw [HE.out, finL, if_neg hln, hcl.out]; rfl)
          by_cases g1 : c2 < 128
          · have g1' : (c2 : Int) < 128 := by omega
            go_wp2_with (go_at_call 48; refine (within_any _ _ _ _).mono ?_; rintro e wq ⟨rfl, rfl⟩)
            go_ret
            exact ⟨by rw [HF.out, if_pos (.inl g1)]; rfl, Below.refl _ _⟩
          have g1' : ¬ (c2 : Int) < 128 := by omega
          by_cases g2 : 1114111 < c2
          · have g2' : (1114111 : Int) < c2 := by omega
            go_wp2_with (go_at_call 48; refine (within_any _ _ _ _).mono ?_; rintro e wq ⟨rfl, rfl⟩)
            go_ret
            exact ⟨by rw [HF.out, if_pos (.inr (.inl g2))]; rfl, Below.refl _ _⟩
          have g2' : ¬ (1114111 : Int) < c2 := by omega
          by_cases g3 : 55296 ≤ c2 ∧ c2 ≤ 57343
          · have kv : within (c2 : Int) 55296 57343 = true := by simp [within]; omega
            go_wp2_with (go_at_call 48; refine (within_any _ _ _ _).mono ?_; rintro e wq ⟨rfl, rfl⟩)
            go_ret
            exact ⟨by rw [HF.out, if_pos (.inr (.inr g3))]; rfl, Below.refl _ _⟩
          · have kv : within (c2 : Int) 55296 57343 = false := by simp [within]; omega
            go_wp2_with (go_at_call 48; refine (within_any _ _ _ _).mono ?_; rintro e wq ⟨rfl, rfl⟩)
            go_ret
            exact ⟨by rw [HF.out, if_neg (by omega)]; rfl, Below.refl _ _⟩
  have j2 : within (c : Int) 194 223 = false := by simp [within]; omega
  by_cases h3 : 224 ≤ c ∧ c ≤ 239
  · have k3 : within (c : Int) 224 239 = true := by simp [within]; omega
    have HE : Hid (rune1L l = finL l 3 (c - 224) 2048) := Lib.hid (by unfold rune1L; rw [← HC.out]; rw [if_neg h1, if_neg h2, if_pos h3])
    have hsub : IntKind.i64.wrap ((c : Int) - 224) = ((c - 224 : Nat) : Int) := by rw [IntKind.wrap_i64]; omega
    have hcb : c - 224 < 32 := by omega
    have hsub2 : (c : Int) - 224 = ((c - 224 : Nat) : Int) := by omega
    generalize c - 224 = c1 at HE hsub hcb hsub2
    by_cases hln : l.length < 3
    · have hln' : (l.length : Int) < 3 := by omega
      go_wp2_with (go_at_call 48; refine (within_any _ _ _ _).mono ?_; rintro e wq ⟨rfl, rfl⟩)
      go_ret
      exact ⟨by rw [HE.out, finL, if_pos hln]; rfl, Below.refl _ _⟩
    · have hln' : ¬ (l.length : Int) < 3 := by omega
      go_wp2_with (go_at_call 48; refine (within_any _ _ _ _).mono ?_; rintro e wq ⟨rfl, rfl⟩)
      clear hi0 hwr k3 hsub hsub2
      go_loopw [6, 3] (fun t6 t3 wr => ∃ k c2 : Nat, t6 = .int .i64 k ∧ t3 = .int .i64 c2 ∧ 1 ≤ k ∧ k ≤ 3 ∧ c2 ≤ 8388607 ∧ Hid ((k = 1 ∧ c2 < 32) ∨ (k = 2 ∧ c2 < 2048) ∨ (k = 3 ∧ c2 < 131072) ∨ (k = 4 ∧ c2 < 8388608)) ∧ Hid (contL l (3 - 1) 1 c1 = contL l (3 - k) k c2) ∧ w = wr) (fun t6 _ _ => 3 - (intOf t6).toNat)
      case atStart => exact ⟨1, c1, rfl, rfl, by omega, by omega, by omega, Lib.hid (by omega), Lib.hid rfl, rfl⟩
      case round =>
        obtain ⟨k, c2, rfl, rfl, hk1, hk2, hc2, hbd, hcl, rfl⟩ := hrel
        by_cases hkn : k < 3
        · have hix := HI.out k w (by omega)
          have hb256 := byteAt_lt l k
          have hcs : contL l (3 - k) k c2 = if 128 ≤ byteAt l k ∧ byteAt l k ≤ 191 then contL l (3 - (k + 1)) (k + 1) (c2 * 64 + byteAt l k - 128) else none := by
            rw [show 3 - k = (3 - (k + 1)) + 1 by omega, contL]
          have HCS := Lib.hid hcs
          clear hcs
          generalize byteAt l k = b at hix hb256 HCS
          have hwb : IntKind.i64.wrap (b : Int) = b := by rw [IntKind.wrap_i64]; omega
          by_cases hbb : 128 ≤ b ∧ b ≤ 191
          · have kb : within (b : Int) 128 191 = true := by simp [within]; omega
            have hnew : c2 * 64 + b - 128 ≤ c2 * 64 + 63 := by omega
            have hsum : (c2 : Int) * 64 + b - 128 = ((c2 * 64 + b - 128 : Nat) : Int) := by omega
            have hbd2 : Hid ((k + 1 = 2 ∧ c2 * 64 + b - 128 < 2048) ∨ (k + 1 = 3 ∧ c2 * 64 + b - 128 < 131072) ∨ (k + 1 = 4 ∧ c2 * 64 + b - 128 < 8388608)) := Lib.hid (by have := hbd.out; omega)
            go_wp2_with (go_at_call 48; refine (within_any _ _ _ _).mono ?_; rintro e wq ⟨rfl, rfl⟩)
            exact ⟨⟨k + 1, c2 * 64 + b - 128, by go_num, by go_num, by omega, by omega, by have := hbd2.out; omega, Lib.hid (by have := hbd2.out; omega), Lib.hid (by rw [hcl.out, HCS.out, if_pos hbb]), trivial⟩, by simp [intOf]; omega⟩
          · have kb : within (b : Int) 128 191 = false := by simp [within]; omega
            go_wp2_with (go_at_call 48; refine (within_any _ _ _ _).mono ?_; rintro e wq ⟨rfl, rfl⟩)
            go_ret
            exact ⟨by rw [HE.out, finL, if_neg hln, hcl.out, HCS.out, if_neg hbb]; rfl, Below.refl _ _⟩
        · obtain rfl : k = 3 := by omega
          have HF : Hid (rune1L l = if c2 < 2048 ∨ 1114111 < c2 ∨ (55296 ≤ c2 ∧ c2 ≤ 57343) then 0 else 3) := Lib.hid (by rw [HE.out, finL, if_neg hln, hcl.out]; rfl)
          by_cases g1 : c2 < 2048
          · have g1' : (c2 : Int) < 2048 := by omega
            go_wp2_with (go_at_call 48; refine (within_any _ _ _ _).mono ?_; rintro e wq ⟨rfl, rfl⟩)
            go_ret
            exact ⟨by rw [HF.out, if_pos (.inl g1)]; rfl, Below.refl _ _⟩
          have g1' : ¬ (c2 : Int) < 2048 := by omega
          by_cases g2 : 1114111 < c2
          · have g2' : (1114111 : Int) < c2 := by omega
            go_wp2_with (go_at_call 48; refine (within_any _ _ _ _).mono ?_; rintro e wq ⟨rfl, rfl⟩)
            go_ret
            exact ⟨by rw [HF.out, if_pos (.inr (.inl g2))]; rfl, Below.refl _ _⟩
          have g2' : ¬ (1114111 : Int) < c2 := by omega
          by_cases g3 : 55296 ≤ c2 ∧ c2 ≤ 57343
          · have kv : within (c2 : Int) 55296 57343 = true := by simp [within]; omega
            go_wp2_with (go_at_call 48; refine (within_any _ _ _ _).mono ?_; rintro e wq ⟨rfl, rfl⟩)
            go_ret
            exact ⟨by rw [HF.out, if_pos (.inr (.inr g3))]; rfl, Below.refl _ _⟩
          · have kv : within (c2 : Int) 55296 57343 = false := by simp [within]; omega
            go_wp2_with (go_at_call 48; refine (within_any _ _ _ _).mono ?_; rintro e wq ⟨rfl, rfl⟩)
            go_ret
            exact ⟨by rw [HF.out, if_neg (by omega)]; rfl, Below.refl _ _⟩
  have j3 : within (c : Int) 224 239 = false := by simp [within]; omega
  by_cases h4 : 240 ≤ c ∧ c ≤ 244
  · have k4 : within (c : Int) 240 244 = true := by simp [within]; omega
    have HE : Hid (rune1L l = finL l 4 (c - 240) 65536) := Lib.hid (by unfold rune1L; rw [← HC.out]; rw [if_neg h1, if_neg h2, if_neg h3, if_pos h4])
    have hsub : IntKind.i64.wrap ((c : Int) - 240) = ((c - 240 : Nat) : Int) := by rw [IntKind.wrap_i64]; omega
    have hcb : c - 240 < 32 := by omega
    have hsub2 : (c : Int) - 240 = ((c - 240 : Nat) : Int) := by omega
    generalize c - 240 = c1 at HE hsub hcb hsub2
    by_cases hln : l.length < 4
    · have hln' : (l.length : Int) < 4 := by omega
      go_wp2_with (go_at_call 48; refine (within_any _ _ _ _).mono ?_; rintro e wq ⟨rfl, rfl⟩)
      go_ret
      exact ⟨by rw [HE.out, finL, if_pos hln]; rfl, Below.refl _ _⟩
    · have hln' : ¬ (l.length : Int) < 4 := by omega
      go_wp2_with (go_at_call 48; refine (within_any _ _ _ _).mono ?_; rintro e wq ⟨rfl, rfl⟩)
      clear hi0 hwr k4 hsub hsub2
      go_loopw [6, 3] (fun t6 t3 wr => ∃ k c2 : Nat, t6 = .int .i64 k ∧ t3 = .int .i64 c2 ∧ 1 ≤ k ∧ k ≤ 4 ∧ c2 ≤ 8388607 ∧ Hid ((k = 1 ∧ c2 < 32) ∨ (k = 2 ∧ c2 < 2048) ∨ (k = 3 ∧ c2 < 131072) ∨ (k = 4 ∧ c2 < 8388608)) ∧ Hid (contL l (4 - 1) 1 c1 = contL l (4 - k) k c2) ∧ w = wr) (fun t6 _ _ => 4 - (intOf t6).toNat)
      case atStart => exact ⟨1, c1, rfl, rfl, by omega, by omega, by omega, Lib.hid (by omega), Lib.hid rfl, rfl⟩
      case round =>
        obtain ⟨k, c2, rfl, rfl, hk1, hk2, hc2, hbd, hcl, rfl⟩ := hrel
        by_cases hkn : k < 4
        · have hix := HI.out k w (by omega)
          have hb256 := byteAt_lt l k
          have hcs : contL l (4 - k) k c2 = if 128 ≤ byteAt l k ∧ byteAt l k ≤ 191 then contL l (4 - (k + 1)) (k + 1) (c2 * 64 + byteAt l k - 128) else none := by
            rw [show 4 - k = (4 - (k + 1)) + 1 by omega, contL]
          have HCS := Lib.hid hcs
          clear hcs
          generalize byteAt l k = b at hix hb256 HCS
          have hwb : IntKind.i64.wrap (b : Int) = b := by rw [IntKind.wrap_i64]; omega
          by_cases hbb : 128 ≤ b ∧ b ≤ 191
          · have kb : within (b : Int) 128 191 = true := by simp [within]; omega
            have hnew : c2 * 64 + b - 128 ≤ c2 * 64 + 63 := by omega
            have hsum : (c2 : Int) * 64 + b - 128 = ((c2 * 64 + b - 128 : Nat) : Int) := by omega
            have hbd2 : Hid ((k + 1 = 2 ∧ c2 * 64 + b - 128 < 2048) ∨ (k + 1 = 3 ∧ c2 * 64 + b - 128 < 131072) ∨ (k + 1 = 4 ∧ c2 * 64 + b - 128 < 8388608)) := Lib.hid (by have := hbd.out; omega)
            go_wp2_with (go_at_call 48; refine (within_any _ _ _ _).mono ?_; rintro e wq ⟨rfl, rfl⟩)
            exact ⟨⟨k + 1, c2 * 64 + b - 128, by go_num, by go_num, by omega, by omega, by have := hbd2.out; omega, Lib.hid (by have := hbd2.out; omega), Lib.hid (by rw [hcl.out, HCS.out, if_pos hbb]), trivial⟩, by simp [intOf]; omega⟩
          · have kb : within (b : Int) 128 191 = false := by simp [within]; omega
            go_wp2_with (go_at_call 48; refine (within_any _ _ _ _).mono ?_; rintro e wq ⟨rfl, rfl⟩)
            go_ret
            exact ⟨by rw [HE.out, finL, if_neg hln, hcl.out, HCS.out, if_neg hbb]; rfl, Below.refl _ _⟩
        · obtain rfl : k = 4 := by omega
          have HF : Hid (rune1L l = if c2 < 65536 ∨ 1114111 < c2 ∨ (55296 ≤ c2 ∧ c2 ≤ 57343) then 0 else 4) := Lib.hid (by rw [HE.out, finL, if_neg hln, hcl.out]; rfl)
          by_cases g1 : c2 < 65536
          · have g1' : (c2 : Int) < 65536 := by omega
            go_wp2_with (go_at_call 48; refine (within_any _ _ _ _).mono ?_; rintro e wq ⟨rfl, rfl⟩)
            go_ret
            exact ⟨by rw [HF.out, if_pos (.inl g1)]; rfl, Below.refl _ _⟩
          have g1' : ¬ (c2 : Int) < 65536 := by omega
          by_cases g2 : 1114111 < c2
          · have g2' : (1114111 : Int) < c2 := by omega
            go_wp2_with (go_at_call 48; refine (within_any _ _ _ _).mono ?_; rintro e wq ⟨rfl, rfl⟩)
            go_ret
            exact ⟨by rw [HF.out, if_pos (.inr (.inl g2))]; rfl, Below.refl _ _⟩
          have g2' : ¬ (1114111 : Int) < c2 := by omega
          by_cases g3 : 55296 ≤ c2 ∧ c2 ≤ 57343
          · have kv : within (c2 : Int) 55296 57343 = true := by simp [within]; omega
            go_wp2_with (go_at_call 48; refine (within_any _ _ _ _).mono ?_; rintro e wq ⟨rfl, rfl⟩)
            go_ret
            exact ⟨by rw [HF.out, if_pos (.inr (.inr g3))]; rfl, Below.refl _ _⟩
          · have kv : within (c2 : Int) 55296 57343 = false := by simp [within]; omega
            go_wp2_with (go_at_call 48; refine (within_any _ _ _ _).mono ?_; rintro e wq ⟨rfl, rfl⟩)
            go_ret
            exact ⟨by rw [HF.out, if_neg (by omega)]; rfl, Below.refl _ _⟩
  have j4 : within (c : Int) 240 244 = false := by simp [within]; omega
  go_wp2_with (go_at_call 48; refine (within_any _ _ _ _).mono ?_; rintro e wq ⟨rfl, rfl⟩)
  go_ret
  exact ⟨by unfold rune1L; rw [← HC.out, if_neg h1, if_neg h2, if_neg h3, if_neg h4]; rfl, Below.refl _ _⟩
end Go.Proofs.Zip
namespace Go.Proofs.Zip
open Go Go.RowKit
theorem finL_le (l : List UInt8) (n c low : Nat) : finL l n c low ≤ l.length := by
  unfold finL
  by_cases h : l.length < n
  · rw [if_pos h]; omega
  · rw [if_neg h]
    split
    · omega
    · split <;> omega
theorem rune1L_le (l : List UInt8) (h : 0 < l.length) : rune1L l ≤ l.length := by
  unfold rune1L
  split
  · omega
  · split
    · exact finL_le _ _ _ _
    · split
      · exact finL_le _ _ _ _
      · split
        · exact finL_le _ _ _ _
        · omega
/-- Whether a rune is one that need not be told. -/
def oddB (n b : Nat) : Bool := decide (1 < n) || decide (b < 32) || decide (125 < b) || b == 92
/-- Whether a text is UTF-8, and whether it must be told so. -/
def validN : Nat → List UInt8 → Bool → Bool × Bool
  | 0, _, q => (true, q)
  | m + 1, l, q => if l = [] then (true, q) else if rune1L l = 0 then (false, false) else validN m (l.drop (rune1L l)) (q || oddB (rune1L l) (byteAt l 0))
def validL (l : List UInt8) : Bool × Bool := validN l.length l false
theorem validN_more (n m : Nat) (l : List UInt8) (q : Bool) (h : l.length ≤ n) (h2 : n ≤ m) : validN m l q = validN n l q := by
  induction n generalizing m l q with
  | zero => obtain rfl : l = [] := List.eq_nil_of_length_eq_zero (by omega); cases m <;> simp [validN]
  | succ n ih =>
    obtain ⟨m, rfl⟩ : ∃ k, m = k + 1 := ⟨m - 1, by omega⟩
    simp only [validN]
    by_cases hl : l = []
    · simp [hl]
    · by_cases hz : rune1L l = 0
      · simp [hz]
      · have hd : (l.drop (rune1L l)).length ≤ n := by simp; omega
        rw [if_neg hl, if_neg hl, if_neg hz, if_neg hz, ih m _ _ hd (by omega)]
set_option maxRecDepth 100000 in
set_option maxHeartbeats 2000000 in
theorem valid_any (l : List UInt8) (w : World) (hl : l.length ≤ 4611686018427387904) :
    Calls Tryz.prog 57 #[.string (B l)] w fun e w' => e = .returned (.tuple #[.bool (validL l).1, .bool (validL l).2]) ∧ Below w.heap.size w w' := by
  have hidx : ∀ (k : Nat) (w : World), k < l.length → (Instr.index 9 (.string (B l)) (.int .i64 k)).run Tryz.prog w = .ok (.int .u8 (byteAt l k : Nat)) w := fun k w hk => by
    rw [run_index_string w 9 (B l) .i64 _ Tryz.underlying9]
    rw [dif_pos ⟨by omega, by rw [size_B]; omega⟩]
    simp only [get_B]
    simp [byteAt, hk]
  have HI := Lib.hid hidx
  clear hidx
  go_enter Tryz.func57, Tryz.ntmps57
  go_wp2
  go_loopw [5, 4] (fun t5 t4 wr => ∃ (k : Nat) (q : Bool), t5 = .int .i64 k ∧ t4 = .bool q ∧ k ≤ l.length ∧ Hid (validL l = validN (l.length - k) (l.drop k) q) ∧ Hid (Below w.heap.size w wr)) (fun t5 _ _ => l.length - (intOf t5).toNat)
  case atStart => exact ⟨0, false, rfl, rfl, Nat.zero_le _, Lib.hid rfl, Lib.hid (Below.refl _ _)⟩
  case round =>
    obtain ⟨k, q, rfl, rfl, hk, hv, hB⟩ := hrel
    by_cases hlt : k < l.length
    · have hdl : (l.drop k).length = l.length - k := List.length_drop
      have HR := Lib.hid (rune1_any (l.drop k) wr (by omega) (by omega))
      have hle := rune1L_le (l.drop k) (by omega)
      have hbd : byteAt (l.drop k) 0 = byteAt l k := by simp [byteAt]
      have hun : validN (l.length - k) (l.drop k) q = if rune1L (l.drop k) = 0 then (false, false) else validN (l.length - (k + rune1L (l.drop k))) (l.drop (k + rune1L (l.drop k))) (q || oddB (rune1L (l.drop k)) (byteAt l k)) := by
        obtain ⟨m, hm⟩ : ∃ m, l.length - k = m + 1 := ⟨l.length - k - 1, by omega⟩
        have hne : ¬ l.drop k = [] := by intro h; have := congrArg List.length h; simp at this; omega
        rw [hm, validN, if_neg hne, hbd, List.drop_drop]
        by_cases hz : rune1L (l.drop k) = 0
        · rw [if_pos hz, if_pos hz]
        · rw [if_neg hz, if_neg hz, validN_more (l.length - (k + rune1L (l.drop k))) m _ _ (by simp) (by omega)]
      have HUN := Lib.hid hun
      have hix := HI.out k
      have hb256 := byteAt_lt l k
      clear hun hbd
      generalize rune1L (l.drop k) = n at HR hle HUN
      generalize byteAt l k = b at HUN hix hb256
      by_cases hz : n = 0
      · subst hz
        go_wp2_with (go_at_call 66; refine HR.out.mono ?_; rintro e w1 ⟨rfl, hb1⟩)
        go_ret2
        have hvv : validL l = (false, false) := hv.out.trans (HUN.out.trans (if_pos trivial))
        exact ⟨by rw [hvv]; rfl, below_up hB.out hb1⟩
      · have hz' : ¬ (n : Int) = 0 := by omega
        have hz2 : ((n : Int) == 0) = false := by rw [beq_eq_false_iff_ne]; omega
        have hun := HUN.out
        rw [if_neg hz] at hun
        have HV := Lib.hid (hv.out.trans hun)
        clear hun
        have hix0 : ∀ w1 : World, (Instr.index 9 (.string (B l)) (.int .i64 k)).run Tryz.prog w1 = .ok (.int .u8 (b : Nat)) w1 := fun w1 => hix w1 hlt
        clear hix
        by_cases p1 : 1 < n
        · have p1' : (1 : Int) < n := by omega
          have HO : Hid ((q || oddB n b) = true) := Lib.hid (by simp [oddB, p1])
          go_wp2_with (go_at_call 66; refine HR.out.mono ?_; rintro e w1 ⟨rfl, hb1⟩)
          exact ⟨⟨k + n, true, by go_num, rfl, by omega, Lib.hid (by rw [HV.out, show (q || oddB n b) = true from HO.out]), Lib.hid (below_up hB.out hb1)⟩, by simp [intOf]; omega⟩
        have p1' : ¬ (1 : Int) < n := by omega
        by_cases p2 : b < 32
        · have p2' : (b : Int) < 32 := by omega
          have HO : Hid ((q || oddB n b) = true) := Lib.hid (by simp [oddB, p2])
          go_wp2_with (go_at_call 66; refine HR.out.mono ?_; rintro e w1 ⟨rfl, hb1⟩)
          exact ⟨⟨k + n, true, by go_num, rfl, by omega, Lib.hid (by rw [HV.out, show (q || oddB n b) = true from HO.out]), Lib.hid (below_up hB.out hb1)⟩, by simp [intOf]; omega⟩
        have p2' : ¬ (b : Int) < 32 := by omega
        by_cases p3 : 125 < b
        · have p3' : (125 : Int) < b := by omega
          have HO : Hid ((q || oddB n b) = true) := Lib.hid (by simp [oddB, p3])
          go_wp2_with (go_at_call 66; refine HR.out.mono ?_; rintro e w1 ⟨rfl, hb1⟩)
          exact ⟨⟨k + n, true, by go_num, rfl, by omega, Lib.hid (by rw [HV.out, show (q || oddB n b) = true from HO.out]), Lib.hid (below_up hB.out hb1)⟩, by simp [intOf]; omega⟩
        have p3' : ¬ (125 : Int) < b := by omega
        by_cases p4 : b = 92
        · have p4' : ((b : Int) == 92) = true := by rw [beq_iff_eq]; omega
          have HO : Hid ((q || oddB n b) = true) := Lib.hid (by simp [oddB, p4])
          clear p4
          go_wp2_with (go_at_call 66; refine HR.out.mono ?_; rintro e w1 ⟨rfl, hb1⟩)
          exact ⟨⟨k + n, true, by go_num, rfl, by omega, Lib.hid (by rw [HV.out, show (q || oddB n b) = true from HO.out]), Lib.hid (below_up hB.out hb1)⟩, by simp [intOf]; omega⟩
        have p4' : ((b : Int) == 92) = false := by rw [beq_eq_false_iff_ne]; omega
        have HO : Hid ((q || oddB n b) = q) := Lib.hid (by simp [oddB, p1, p2, p3, p4])
        clear p4
        go_wp2_with (go_at_call 66; refine HR.out.mono ?_; rintro e w1 ⟨rfl, hb1⟩)
        exact ⟨⟨k + n, q, by go_num, rfl, by omega, Lib.hid (by rw [HV.out, show (q || oddB n b) = q from HO.out]), Lib.hid (below_up hB.out hb1)⟩, by simp [intOf]; omega⟩
    · obtain rfl : k = l.length := by omega
      go_wp2
      go_ret2
      have h0 : validN (l.length - l.length) (l.drop l.length) q = (true, q) := by rw [Nat.sub_self]; rfl
      have hvv : validL l = (true, q) := hv.out.trans h0
      exact ⟨by rw [hvv]; rfl, hB.out⟩
end Go.Proofs.Zip
namespace Go.Proofs.Zip
open Go Go.RowKit
/-- Whether a header's texts are told not to be UTF-8. -/
def nonB (h : H) : Bool := !(validL h.name).1 || !(validL h.comment).1 || (((validL h.name).2 || (validL h.comment).2) && (h.flags / 2048 % 2 == 0))
set_option maxRecDepth 100000 in
set_option maxHeartbeats 2000000 in
theorem nonUTF8_any (h : H) (w : World) (hn : h.name.length ≤ 60000) (hc : h.comment.length ≤ 60000) (hf : 0 ≤ h.flags ∧ h.flags ≤ 65535) :
    Calls Tryz.prog 43 #[h.val] w fun e w' => e = .returned (.bool (nonB h)) ∧ Below w.heap.size w w' := by
  have HN : Hid (∀ w, Calls Tryz.prog 57 #[.string (B h.name)] w fun e w' => e = .returned (.tuple #[.bool (validL h.name).1, .bool (validL h.name).2]) ∧ Below w.heap.size w w') := Lib.hid fun w => valid_any h.name w (by omega)
  have HC : Hid (∀ w, Calls Tryz.prog 57 #[.string (B h.comment)] w fun e w' => e = .returned (.tuple #[.bool (validL h.comment).1, .bool (validL h.comment).2]) ∧ Below w.heap.size w w') := Lib.hid fun w => valid_any h.comment w (by omega)
  have HB : Hid (nonB h = (!(validL h.name).1 || !(validL h.comment).1 || (((validL h.name).2 || (validL h.comment).2) && (h.flags / 2048 % 2 == 0)))) := Lib.hid rfl
  generalize (validL h.name).1 = a at HN HB
  generalize (validL h.name).2 = x at HN HB
  generalize (validL h.comment).1 = b at HC HB
  generalize (validL h.comment).2 = y at HC HB
  have ht1 : Int.tdiv h.flags 2048 = h.flags / 2048 := Int.tdiv_eq_ediv_of_nonneg hf.1
  have ht2 : Int.tmod (h.flags / 2048) 2 = h.flags / 2048 % 2 := Int.tmod_eq_emod_of_nonneg (by omega)
  go_enter Tryz.func43, Tryz.ntmps43
  go_wp2_with fail
  refine (HN.out _).mono ?_
  rintro e w1 ⟨rfl, hb1⟩
  have hr1 := rangeAt_below hb1 (rangeAt_new w h.cells 26) (by rw [World.size_alloc]; omega)
  have hs1 : w.heap.size < w1.heap.size := Nat.lt_of_lt_of_le (by rw [World.size_alloc]; omega) hb1.size
  have d1 : w1.cell? ⟨w.heap.size, 1, none⟩ = some (.string (B h.comment)) := by have := hr1 1 _ rfl; simpa using this
  have hbw : Below w.heap.size w w1 := below_up ((Below.refl w.heap.size w).alloc (Nat.le_refl _) _) hb1
  have HBW := Lib.hid hbw
  have HR1 := Lib.hid hr1
  clear hbw hb1 hr1 HN
  go_wp2_with fail
  refine (HC.out _).mono ?_
  rintro e w2 ⟨rfl, hb2⟩
  have hr2 := rangeAt_below hb2 HR1.out hs1
  have d6 : w2.cell? ⟨w.heap.size, 6, none⟩ = some (.int .i64 h.flags) := by have := hr2 6 _ rfl; simpa using this
  have HBW2 := Lib.hid (below_up HBW.out hb2)
  clear hr2 hb2 HR1 HBW HC d1 hs1
  all_goals (cases a <;> cases b <;> cases x <;> cases y)
  all_goals (
    go_wp2
    go_ret
    exact ⟨by rw [HB.out]; rfl, HBW2.out⟩)
end Go.Proofs.Zip
namespace Go.Proofs.Zip
open Go Go.RowKit
/-- A header as the specification lists it. -/
def toldE (e : E) : H := told e.hdr (nonB e.hdr)
set_option maxRecDepth 100000 in
set_option maxHeartbeats 2000000 in
theorem listed_any (es : List E) (v : Value) (w : World) (hv : IsList w v es) (hlen : es.length ≤ 60000) (hs : ∀ e ∈ es, HOk e.hdr) :
    Calls Tryz.prog 29 #[v] w fun r w' => ∃ u, r = .returned u ∧ w'.ownsRow w.heap.size 26 14 u es.length (hrows (es.map toldE)) ∧ Below w.heap.size w w' := by
  have HS := Lib.hid hs
  obtain ⟨a, cap, rfl, hl⟩ := hv
  clear hs
  go_enter Tryz.func29, Tryz.ntmps29
  go_wp2
  go_loopw [3, 9] (fun t3 t9 wr => ∃ k : Nat, t9 = .int .i64 k ∧ k ≤ es.length ∧ wr.ownsRow w.heap.size 26 14 t3 k (hrows ((es.take k).map toldE)) ∧ Below w.heap.size w wr) (fun _ t9 _ => es.length - (intOf t9).toNat)
  case atStart => exact ⟨0, rfl, Nat.zero_le _, ⟨rfl, .inr ⟨_, 0, _, rfl, Nat.le_refl _, heap_alloc_last _ _, Nat.le_refl _, by decide, rfl, rfl⟩⟩, (Below.refl _ _).alloc (Nat.le_refl _) _⟩
  case round =>
    obtain ⟨k, rfl, hk, hown, hb⟩ := hrel
    by_cases hlt : k < es.length
    · obtain ⟨b, off, rfl, hblt, hr⟩ := hl (fun e => by simp [e] at hlt)
      have hr := rangeAt_below hb (hr k es[k] (List.getElem?_eq_getElem hlt)) hblt
      have hok := HS.out es[k] (List.getElem_mem hlt)
      have hsn : hrows ((es.take (k + 1)).map toldE) = hrows ((es.take k).map toldE) ++ (toldE es[k]).cells := by
        rw [List.take_succ_eq_append_getElem hlt, List.map_append]; exact hrows_snoc _ _
      generalize es[k] = e at hr hok hsn
      have HSN := Lib.hid hsn
      have HNU := Lib.hid (fun w' => nonUTF8_any e.hdr w' hok.name hok.comment hok.flags)
      have HB := Lib.hid hb
      have HOWN := Lib.hid hown
      clear hsn hok hb hown
      have hsz := HB.out.size
      have hrn : (wr.alloc (.cells e.cells.toArray 28)).rangeAt wr.heap.size 0 e.hdr.cells := rangeAt_part (n := 0) (rangeAt_new wr e.cells 28) rfl
      go_upto_region 6 with (first
          | (refine wpList_load_mid rfl 28 _ rfl b (off + k * 15) rfl e.cells _ hr Tryz.underlying28 rfl sizeEnt ?_)
          | (refine wpList_alloc_store 28 _ _ e.cells rfl rfl rfl rfl rfl rfl sizesEnt rfl ?_)
          | (refine wpList_load_mid rfl 26 _ rfl wr.heap.size 0 rfl e.hdr.cells _ hrn Tryz.underlying26 rfl sizeHdr ?_)
          | (go_at_call 43; refine (HNU.out _).mono ?_; rintro r w1 ⟨rfl, hb1⟩; have B1 : Blk w1 wr.heap.size e.cells.toArray 28 := below_blk hb1 (Blk.new _ _ _); have z3 : w1.cell? ⟨wr.heap.size, 3, none⟩ = some (.bool e.hdr.non) := B1.cell 3; have y3 : w1.frozen? ⟨wr.heap.size, 3, none⟩ = false := B1.frozen 3; have HB1 := Lib.hid (below_up (Below.refl wr.heap.size wr |>.alloc (Nat.le_refl _) _) hb1); have B1 := Lib.hid B1; clear hb1))
      have hown1 := ownsRow_below HOWN.out HB1.out
      have hlt1 : wr.heap.size < w1.heap.size := B1.out.lt
      have hown3 : (w1.setCell ⟨wr.heap.size, 3, none⟩ (.bool (nonB e.hdr))).ownsRow w.heap.size 26 14 u3 k (hrows ((es.take k).map toldE)) := ownsRow_fr hown1 ((Fr.refl (· = wr.heap.size) w1).setCell (fun _ => rfl) _) (fun b hb e => by subst hb; have := (HOWN.out.lt _ e.symm).2; omega)
      have hB3 : Below w.heap.size w (w1.setCell ⟨wr.heap.size, 3, none⟩ (.bool (nonB e.hdr))) := (below_up HB.out HB1.out).setCell hsz _
      have hr3 : (w1.setCell ⟨wr.heap.size, 3, none⟩ (.bool (nonB e.hdr))).rangeAt wr.heap.size 0 (toldE e).cells := (B1.out.set 3 (.bool (nonB e.hdr))).range (by rfl)
      clear z3 y3 hown1
      generalize w1.setCell ⟨wr.heap.size, 3, none⟩ (.bool (nonB e.hdr)) = w3 at hown3 hB3 hr3
      clear hr hrn hl B1
      go_wp2_with (first
          | (refine wpList_load_mid rfl 26 _ rfl wr.heap.size 0 rfl (toldE e).cells _ hr3 Tryz.underlying26 rfl sizeHdr ?_)
          | (at_builtin; refine wpList_app1 (news := (toldE e).cells) rfl _ _ 43 rfl w.heap.size Tryz.underlying43 infoHdr rfl (by decide) _ _ _ rfl hown3 rfl rfl ?c1 ?c2 (by decide) hB3 (Nat.le_refl _) hB3.size ?_))
      case c1 => simp [Value.oneCell']
      case c2 => omega
      intro v' w' hown' hb' _
      go_wp2
      exact ⟨⟨k + 1, by go_num, by omega, by rw [HSN.out, List.map_take]; exact hown', hb'⟩, by simp [intOf]; omega⟩
    · obtain rfl : k = es.length := by omega
      go_wp2
      go_ret
      exact ⟨_, rfl, by rw [List.take_of_length_le (Nat.le_refl _)] at hown; exact hown, hb⟩
end Go.Proofs.Zip
