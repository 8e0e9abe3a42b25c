/- A part of a proof over the given program: Ar, LawA, LawB. Nothing is assumed here. -/
import Derived.Test.YtidmhfhfcoljeaaGreatDoorZP
import Derived.Test.YtidmhfhfcoljeaaGreatDoorZB
namespace Go.Proofs.Zip
open Go Go.RowKit
/-! Archives as texts: plain. -/
/-- Entries with the places of their local headers. -/
def hsOf : List E → Nat → List (H × Nat)
  | [], _ => []
  | e :: es, a => (e.hdr, a) :: hsOf es (a + ((localL e.hdr).length + e.data.length))
theorem hsOf_length (es : List E) : ∀ a, (hsOf es a).length = es.length := by
  induction es with
  | nil => intro a; rfl
  | cons e es ih => intro a; simp [hsOf, ih]
theorem filesL_cons (e : E) (es : List E) : filesL (e :: es) = (localL e.hdr ++ e.data) ++ filesL es := by simp [filesL]
theorem hsOf_get (es : List E) : ∀ (a k : Nat) (h : k < es.length), (hsOf es a)[k]? = some (es[k].hdr, a + (filesL (es.take k)).length) := by
  induction es with
  | nil => intro a k h; simp at h
  | cons e es ih =>
    intro a k h
    cases k with
    | zero => simp [hsOf, filesL]
    | succ k =>
      have hk : k < es.length := by simpa using h
      simp only [hsOf, List.getElem?_cons_succ, List.getElem_cons_succ, List.take_succ_cons, filesL_cons]
      rw [ih _ k hk]
      simp only [List.length_append]
      congr 2
      omega
theorem wrap64_small {n : Int} (h0 : 0 ≤ n) (h : n < 9223372036854775808) : wrap64 n = n := by unfold wrap64; omega
theorem dirL_catL (es : List E) : ∀ a : Nat, a + (filesL es).length < 4611686018427387904 → dirL es a = catL (hsOf es a) := by
  induction es with
  | nil => intro a _; rfl
  | cons e es ih =>
    intro a h
    rw [filesL_cons, List.length_append, List.length_append] at h
    rw [dirL, hsOf, catL_cons]
    congr 1
    have e1 : wrap64 ((a : Int) + ((localL e.hdr).length + e.data.length : Nat)) = ((a + ((localL e.hdr).length + e.data.length) : Nat) : Int) := by
      rw [wrap64_small (by omega) (by omega)]; omega
    rw [e1]
    exact ih _ (by omega)
theorem catL_append (a b : List (H × Nat)) : catL (a ++ b) = catL a ++ catL b := by simp [catL]
theorem hsOf_ok {es : List E} (h : es.all entryOk = true) : ∀ a : Nat, a + (filesL es).length ≤ 4294967294 → ∀ x ∈ hsOf es a, headerOk x.1 = true ∧ x.2 ≤ 4294967294 := by
  induction es with
  | nil => intro a _ x hx; simp [hsOf] at hx
  | cons e es ih =>
    intro a ha x hx
    simp only [List.all_cons, Bool.and_eq_true] at h
    rw [filesL_cons, List.length_append, List.length_append] at ha
    simp only [hsOf, List.mem_cons] at hx
    rcases hx with rfl | hx
    · have h1 := h.1
      simp only [entryOk, Bool.and_eq_true] at h1
      exact ⟨h1.1, by show a ≤ _; omega⟩
    · exact ih h.2 _ (by omega) x hx
theorem n2_append {L R : List UInt8} {o : Nat} (h : o + 2 ≤ L.length) : n2 (L ++ R) o = n2 L o := by
  unfold n2
  rw [List.drop_append_of_le_length (by omega), List.take_append_of_le_length (by rw [List.length_drop]; omega)]
theorem n4_append {L R : List UInt8} {o : Nat} (h : o + 4 ≤ L.length) : n4 (L ++ R) o = n4 L o := by
  unfold n4
  rw [List.drop_append_of_le_length (by omega), List.take_append_of_le_length (by rw [List.length_drop]; omega)]
/-- The 22 bytes of an end. -/
def end22 (many size at_ : Int) (clen : Nat) : List UInt8 := [80, 75, 5, 6] ++ leB 2 0 ++ leB 2 0 ++ leB 2 many ++ leB 2 many ++ leB 4 size ++ leB 4 at_ ++ leB 2 clen
theorem endL_split (many size at_ : Int) (c : List UInt8) : endL many size at_ c = end22 many size at_ c.length ++ c := by simp [endL, end22]
theorem end22_len (many size at_ : Int) (clen : Nat) : (end22 many size at_ clen).length = 22 := by simp [end22]
structure EBytes (L : List UInt8) (many size at_ clen : Nat) : Prop where
  sig : L.take 4 = sigEnd
  n0 : n4 L 0 = 101010256
  f10 : n2 L 10 = many
  f12 : n4 L 12 = size
  f16 : n4 L 16 = at_
  f20 : n2 L 20 = clen
theorem EBytes.of (many size at_ clen : Nat) (h1 : many ≤ 65535) (h2 : size ≤ 4294967295) (h3 : at_ ≤ 4294967295) (h4 : clen ≤ 65535) : EBytes (end22 many size at_ clen) many size at_ clen := by
  have key2 : ∀ o (n : Nat), ((end22 many size at_ clen).drop o).take 2 = leB 2 n → n ≤ 65535 → n2 (end22 many size at_ clen) o = n := fun o n e b => by
    have : (n2 (end22 many size at_ clen) o : Int) = n := by rw [n2, e, leN_leB2 n (by omega) (by omega)]
    omega
  have key4 : ∀ o (n : Nat), ((end22 many size at_ clen).drop o).take 4 = leB 4 n → n ≤ 4294967295 → n4 (end22 many size at_ clen) o = n := fun o n e b => by
    have : (n4 (end22 many size at_ clen) o : Int) = n := by rw [n4, e, leN_leB4 n (by omega) (by omega)]
    omega
  have e : ∀ n : Int, ∃ a b, leB 2 n = [a, b] := fun n => ⟨_, _, rfl⟩
  have e' : ∀ n : Int, ∃ a b c d, leB 4 n = [a, b, c, d] := fun n => ⟨_, _, _, _, rfl⟩
  obtain ⟨a0, b0, q0⟩ := e 0
  obtain ⟨a1, b1, q1⟩ := e many
  obtain ⟨a2, b2, c2, d2, q2⟩ := e' size
  obtain ⟨a3, b3, c3, d3, q3⟩ := e' at_
  obtain ⟨a4, b4, q4⟩ := e clen
  have hL : end22 many size at_ clen = [80, 75, 5, 6, a0, b0, a0, b0, a1, b1, a1, b1, a2, b2, c2, d2, a3, b3, c3, d3, a4, b4] := by
    unfold end22; rw [q0, q1, q2, q3, q4]; rfl
  exact ⟨by rw [hL]; rfl, by rw [n4, hL]; simp [leN], key2 _ _ (by rw [hL, q1]; rfl) h1, key4 _ _ (by rw [hL, q2]; rfl) h2, key4 _ _ (by rw [hL, q3]; rfl) h3, key2 _ _ (by rw [hL, q4]; rfl) h4⟩
/-- A text that is a directory with an end, behind other texts. -/
structure Lay (D pre F Dr c post : List UInt8) (many : Nat) : Prop where
  eq : D = pre ++ (F ++ (Dr ++ (endL many Dr.length F.length c ++ post)))
  many : many ≤ 65534
  F : F.length ≤ 4294967294
  Dr : Dr.length ≤ 4294967294
  pre : pre.length ≤ 1152921504606846976
  c : c.length ≤ 65535
  post : post.length ≤ 1000
  once : endsL D = 1
theorem drop_len_append {α : Type} (a b : List α) (n : Nat) (h : n = a.length) : (a ++ b).drop n = b := by subst h; exact List.drop_left
section
variable {D pre F Dr c post : List UInt8} {many : Nat}
theorem Lay.len (h : Lay D pre F Dr c post many) : D.length = pre.length + F.length + Dr.length + 22 + c.length + post.length := by
  rw [h.eq]; simp only [List.length_append, length_endL]; omega
theorem Lay.atEnd (h : Lay D pre F Dr c post many) : D.drop (pre.length + F.length + Dr.length) = end22 many Dr.length F.length c.length ++ (c ++ post) := by
  rw [h.eq, ← List.append_assoc, ← List.append_assoc, drop_len_append _ _ _ (by simp only [List.length_append]), endL_split, List.append_assoc]
theorem Lay.ebytes (h : Lay D pre F Dr c post many) : EBytes (end22 many Dr.length F.length c.length) many Dr.length F.length c.length := EBytes.of _ _ _ _ (by have := h.many; omega) (by have := h.Dr; omega) (by have := h.F; omega) h.c
theorem Lay.n2 (h : Lay D pre F Dr c post many) (o : Nat) (ho : o + 2 ≤ 22) : n2 D (pre.length + F.length + Dr.length + o) = Zip.n2 (end22 many Dr.length F.length c.length) o := by
  rw [← n2_drop, h.atEnd, n2_append (by rw [end22_len]; omega)]
theorem Lay.n4 (h : Lay D pre F Dr c post many) (o : Nat) (ho : o + 4 ≤ 22) : n4 D (pre.length + F.length + Dr.length + o) = Zip.n4 (end22 many Dr.length F.length c.length) o := by
  rw [← n4_drop, h.atEnd, n4_append (by rw [end22_len]; omega)]
theorem Lay.sig (h : Lay D pre F Dr c post many) : sigAt D (pre.length + F.length + Dr.length) := by
  rw [sigAt_iff, h.atEnd, List.take_append_of_le_length (by rw [end22_len]; omega)]
  exact h.ebytes.sig
theorem Lay.clen (h : Lay D pre F Dr c post many) : clenAt D (pre.length + F.length + Dr.length) = c.length := by
  have h1 := h.n2 20 (by omega)
  rw [h.ebytes.f20, n2_byteAt (by have := h.len; omega)] at h1
  exact h1
/-- Where the end is found. -/
theorem Lay.found (h : Lay D pre F Dr c post many) : ∃ b k, Found D (some (b, k)) ∧ b ≤ D.length ∧ D.length - b + k = pre.length + F.length + Dr.length := by
  have hl := h.len
  have hp := h.post
  have hc := h.c
  have hu : ∀ i, sigAt D i → i = pre.length + F.length + Dr.length := fun i hi => sig_once (Nat.le_of_eq h.once) hi h.sig
  obtain ⟨p, hpe⟩ : ∃ p, p = pre.length + F.length + Dr.length := ⟨_, rfl⟩
  have hs := h.sig
  have hcl := h.clen
  rw [← hpe] at hl hu hs hcl ⊢
  by_cases h1 : D.length - min 1024 D.length ≤ p
  · have h2 := lastSig_in (b := min 1024 D.length) (p := p) (Nat.min_le_right _ _) h1 (by omega) hs hu
    rw [hcl, if_neg (by omega)] at h2
    exact ⟨min 1024 D.length, p - (D.length - min 1024 D.length), .first _ _ rfl h2, Nat.min_le_right _ _, by omega⟩
  · have h2 := lastSig_out (D := D) (b := min 1024 D.length) (fun i hi => by have := hu i hi; omega) (Nat.min_le_right _ _)
    have h3 := lastSig_in (b := min 66560 D.length) (p := p) (Nat.min_le_right _ _) (by omega) (by omega) hs hu
    rw [hcl, if_neg (by omega)] at h3
    exact ⟨min 66560 D.length, p - (D.length - min 66560 D.length), .second _ _ _ rfl h2 (by omega) rfl h3, Nat.min_le_right _ _, by omega⟩
theorem Lay.deok (h : Lay D pre F Dr c post many) (hbad : pre = [] ∨ Stops (D.drop F.length)) : DEOk D (pre.length + F.length + Dr.length) pre.length := by
  have hl := h.len
  have e := h.ebytes
  refine ⟨?_, ?_, ?_, ?_, ?_, ?_⟩
  · rw [h.n2 20 (by omega), e.f20]; omega
  · rw [h.n2 10 (by omega), e.f10]; have := h.many; omega
  · rw [h.n4 12 (by omega), e.f12]; have := h.Dr; omega
  · rw [h.n4 16 (by omega), e.f16]; have := h.F; omega
  · rw [h.n4 12 (by omega), h.n4 16 (by omega), e.f12, e.f16]; omega
  · rw [h.n4 16 (by omega), e.f16]
    rcases hbad with hb | hb
    · exact .inl (by rw [hb]; rfl)
    · exact .inr hb
theorem Lay.comment (h : Lay D pre F Dr c post many) : (D.drop (pre.length + F.length + Dr.length + 22)).take (Zip.n2 D (pre.length + F.length + Dr.length + 20)) = c := by
  rw [h.n2 20 (by omega), h.ebytes.f20, ← List.drop_drop, h.atEnd, drop_len_append _ _ _ (end22_len _ _ _ _).symm, List.take_append_of_le_length (Nat.le_refl _), List.take_length]
theorem Lay.dir (h : Lay D pre F Dr c post many) : D.drop (pre.length + Zip.n4 D (pre.length + F.length + Dr.length + 16)) = Dr ++ (endL many Dr.length F.length c ++ post) := by
  rw [h.n4 16 (by omega), h.ebytes.f16, h.eq, ← List.append_assoc, drop_len_append _ _ _ (by simp only [List.length_append])]
/-- Such a text is an archive's, if its directory is one. -/
theorem Lay.arc (h : Lay D pre F Dr c post many) (hs : List (H × Nat)) (tl0 : List UInt8) (hbad : pre = [] ∨ Stops (D.drop F.length)) (hD : Dr = catL hs ++ tl0) (hok : ∀ x ∈ hs, headerOk x.1 = true ∧ x.2 ≤ 4294967294) (hcnt : hs.length ≤ 65000) (hst : Stops (tl0 ++ (endL many Dr.length F.length c ++ post))) :
    ∃ b k, ArcText D b k pre.length hs (tl0 ++ (endL many Dr.length F.length c ++ post)) ∧ D.length - b + k = pre.length + F.length + Dr.length := by
  obtain ⟨b, k, h1, h2, h3⟩ := h.found
  refine ⟨b, k, ⟨h1, by rw [h3]; exact h.deok hbad, ?_, hst, ?_, hok, hcnt, ?_⟩, h3⟩
  · rw [h3, h.dir]
    conv => lhs; rw [hD]
    rw [List.append_assoc, ← hD]
  · intro hn
    have := congrArg List.length hn
    simp only [List.length_append, length_endL, List.length_nil] at this
    omega
  · have := h.len
    have := h.F
    have := h.Dr
    have := h.pre
    have := h.c
    have := h.post
    omega
end
theorem stops_end (many : Nat) (size at_ : Nat) (c post : List UInt8) (h1 : many ≤ 65535) (h2 : size ≤ 4294967295) (h3 : at_ ≤ 4294967295) (h4 : c.length ≤ 65535) : Stops (endL many size at_ c ++ post) := by
  intro h46
  rw [endL_split, List.append_assoc]
  have e : List.take 46 (end22 many size at_ c.length ++ (c ++ post)) = end22 many size at_ c.length ++ List.take 24 (c ++ post) := by
    rw [List.take_append, end22_len, List.take_of_length_le (by rw [end22_len]; omega)]
  rw [e, n4_append (by rw [end22_len]; omega), (EBytes.of many size at_ c.length h1 h2 h3 h4).n0]
  decide
/-- The 30 bytes of a local header. -/
def hdr30 (h : H) : List UInt8 := [80, 75, 3, 4] ++ leB 2 h.reader ++ fieldsL h ++ leB 2 h.name.length ++ leB 2 h.extra.length
theorem local_split (h : H) : localL h = hdr30 h ++ (h.name ++ h.extra) := by simp [localL, hdr30]
theorem hdr30_len (h : H) : (hdr30 h).length = 30 := by simp [hdr30]
theorem hdr30_bytes (h : H) (hn : h.name.length ≤ 60000) (hx : h.extra.length ≤ 60000) : n4 (hdr30 h) 0 = 67324752 ∧ n2 (hdr30 h) 26 = h.name.length ∧ n2 (hdr30 h) 28 = h.extra.length := by
  have key2 : ∀ o (n : Nat), ((hdr30 h).drop o).take 2 = leB 2 n → n ≤ 65535 → n2 (hdr30 h) o = n := fun o n e b => by
    have : (n2 (hdr30 h) o : Int) = n := by rw [n2, e, leN_leB2 n (by omega) (by omega)]
    omega
  have e : ∀ n : Int, ∃ a b, leB 2 n = [a, b] := fun n => ⟨_, _, rfl⟩
  have e' : ∀ n : Int, ∃ a b c d, leB 4 n = [a, b, c, d] := fun n => ⟨_, _, _, _, rfl⟩
  obtain ⟨a1, b1, q1⟩ := e h.reader
  obtain ⟨a2, b2, q2⟩ := e h.flags
  obtain ⟨a3, b3, q3⟩ := e h.method
  obtain ⟨a4, b4, q4⟩ := e h.time
  obtain ⟨a5, b5, q5⟩ := e h.date
  obtain ⟨a7, b7, c7, d7, q7⟩ := e' h.crc
  obtain ⟨a8, b8, c8, d8, q8⟩ := e' h.packed
  obtain ⟨a9, b9, c9, d9, q9⟩ := e' h.size
  obtain ⟨a10, b10, q10⟩ := e h.name.length
  obtain ⟨a11, b11, q11⟩ := e h.extra.length
  have hL : hdr30 h = [80, 75, 3, 4, a1, b1, a2, b2, a3, b3, a4, b4, a5, b5, a7, b7, c7, d7, a8, b8, c8, d8, a9, b9, c9, d9, a10, b10, a11, b11] := by
    unfold hdr30 fieldsL; rw [q1, q2, q3, q4, q5, q7, q8, q9, q10, q11]; rfl
  exact ⟨by rw [n4, hL]; simp [leN], key2 _ _ (by rw [hL, q10]; rfl) (by omega), key2 _ _ (by rw [hL, q11]; rfl) (by omega)⟩
/-- What stands ahead of a file's content. -/
theorem localAt_of (D R : List UInt8) (off : Nat) (h : H) (hn : h.name.length ≤ 60000) (hx : h.extra.length ≤ 60000) (hD : D.drop off = localL h ++ R) : LocalAt D off (30 + h.name.length + h.extra.length) := by
  obtain ⟨h1, h2, h3⟩ := hdr30_bytes h hn hx
  have e : (D.drop off).take 30 = hdr30 h := by
    rw [hD, local_split, List.append_assoc, List.take_append_of_le_length (by rw [hdr30_len]; omega), List.take_of_length_le (by rw [hdr30_len]; omega)]
  exact ⟨by rw [e, hdr30_len], by rw [e, h1], by rw [e, h2, h3]⟩
/-- Where the k-th file stands. -/
theorem files_drop (es : List E) (k : Nat) (h : k < es.length) : (filesL es).drop (filesL (es.take k)).length = localL es[k].hdr ++ (es[k].data ++ filesL (es.drop (k + 1))) := by
  have e : filesL es = filesL (es.take k) ++ filesL (es.drop k) := by
    rw [filesL, filesL, filesL, ← List.flatMap_append, List.take_append_drop]
  rw [e, List.drop_left, List.drop_eq_getElem_cons h, filesL_cons, List.append_assoc]
theorem rest_of_drop (D T R : List UInt8) (o : Nat) (h : D.drop o = T ++ R) : rest D o (o + T.length) = T := by
  unfold rest
  rw [List.drop_take, h, Nat.add_sub_cancel_left, List.take_append_of_le_length (Nat.le_refl _), List.take_length]
/-- The text of the k-th file. -/
theorem fileText_of {D pre R : List UInt8} {es : List E} {k : Nat} (hk : k < es.length) (hD : D = pre ++ (filesL es ++ R)) (hok : entryOk es[k] = true) (hpre : pre.length ≤ 1152921504606846976) (hF : (filesL es).length ≤ 4294967294)
    (hst : es[k].hdr.method = 0 → slash es[k].hdr.name = false → es[k].hdr.packed = (es[k].data.length : Int) ∧ (es[k].data.length : Int) ≤ es[k].hdr.size ∧ (bits .and .u16 es[k].hdr.flags 8 != 0) = false) :
    FileText D ((filesL (es.take k)).length + pre.length) (30 + es[k].hdr.name.length + es[k].hdr.extra.length) es[k].hdr es[k].data := by
  simp only [entryOk, Bool.and_eq_true, decide_eq_true_eq] at hok
  have hh := HOk.of hok.1
  have hd : D.drop ((filesL (es.take k)).length + pre.length) = localL es[k].hdr ++ (es[k].data ++ (filesL (es.drop (k + 1)) ++ R)) := by
    rw [hD, Nat.add_comm, ← List.drop_drop, List.drop_left, List.drop_append_of_le_length (filesL_le es k), files_drop es k hk, List.append_assoc, List.append_assoc]
  have hle := filesL_le es k
  have hle1 := filesL_le es (k + 1)
  rw [filesL_snoc es k hk] at hle1
  simp only [List.length_append, length_localL] at hle1
  have hn := hh.name
  have hx := hh.extra
  refine ⟨localAt_of _ _ _ _ hh.name hh.extra hd, hh.name, by omega, hh.packed, by have := hh.size.2; omega, fun hm hs => ?_⟩
  obtain ⟨h1, h2, h3⟩ := hst hm hs
  refine ⟨h1, h2, by omega, ?_, by omega, h3⟩
  refine rest_of_drop D _ (filesL (es.drop (k + 1)) ++ R) _ ?_
  rw [← List.drop_drop, hd, drop_len_append _ _ _ (length_localL _).symm]
end Go.Proofs.Zip
namespace Go.Proofs.Zip
open Go Go.RowKit
theorem good_parts {es : List E} {c : List UInt8} (h : goodB es c = true) : es.all entryOk = true ∧ es.length ≤ 1000 ∧ c.length ≤ 65535 ∧ endsL (archiveL es c) = 1 := by
  simp only [goodB, Bool.and_eq_true, decide_eq_true_eq, beq_iff_eq] at h
  exact ⟨h.1.1.1, h.1.1.2, h.1.2, h.2⟩
theorem lay_of {es : List E} {c pre post D : List UInt8} {many : Nat} (h : goodB es c = true) (hm : many ≤ 65534) (hD : D = pre ++ (filesL es ++ (dirL es 0 ++ (endL many (dirL es 0).length (filesL es).length c ++ post)))) (hpre : pre.length ≤ 1152921504606846976) (hpost : post.length ≤ 1000) (ho : endsL D = 1) :
    Lay D pre (filesL es) (dirL es 0) c post many := by
  obtain ⟨h1, h2, h3, h4⟩ := good_parts h
  have hf := filesL_ok h1
  have hd := dirL_ok h1 0
  exact ⟨hD, hm, by omega, by omega, hpre, h3, hpost, ho⟩
theorem good_lay {es : List E} {c : List UInt8} (h : goodB es c = true) : Lay (archiveL es c) [] (filesL es) (dirL es 0) c [] es.length := by
  obtain ⟨h1, h2, h3, h4⟩ := good_parts h
  exact lay_of h (by omega) (by simp [archiveL]) (by simp) (by simp) h4
theorem stops_lay {D pre F Dr c post : List UInt8} {many : Nat} (h : Lay D pre F Dr c post many) : Stops ([] ++ (endL many Dr.length F.length c ++ post)) := by
  rw [List.nil_append]
  exact stops_end many Dr.length F.length c post (by have := h.many; omega) (by have := h.Dr; omega) (by have := h.F; omega) h.c
theorem arc_good {es : List E} {c pre post D : List UInt8} {many : Nat} (h : goodB es c = true) (hL : Lay D pre (filesL es) (dirL es 0) c post many) (hbad : pre = [] ∨ Stops (D.drop (filesL es).length)) :
    ∃ b k, ArcText D b k pre.length (hsOf es 0) ([] ++ (endL many (dirL es 0).length (filesL es).length c ++ post)) ∧ D.length - b + k = pre.length + (filesL es).length + (dirL es 0).length := by
  obtain ⟨h1, h2, h3, h4⟩ := good_parts h
  have hf := filesL_ok h1
  refine hL.arc (hsOf es 0) [] hbad ?_ (hsOf_ok h1 0 (by have := hL.F; omega)) (by rw [hsOf_length]; omega) (stops_lay hL)
  rw [List.append_nil]
  exact dirL_catL es 0 (by omega)
theorem content_good {es : List E} {c pre post D : List UInt8} {N0 kk : Nat} {E0 : Errs} {w : World} (hE : Env w N0 E0) (h : goodB es c = true) (hL : Lay D pre (filesL es) (dirL es 0) c post es.length) (hbad : pre = [] ∨ Stops (D.drop (filesL es).length)) (hk : kk < es.length)
    (hst : es[kk].hdr.method = 0 → slash es[kk].hdr.name = false → es[kk].hdr.packed = (es[kk].data.length : Int) ∧ (es[kk].data.length : Int) ≤ es[kk].hdr.size ∧ (bits .and .u16 es[kk].hdr.flags 8 != 0) = false) :
    Calls Tryz.prog 27 #[.string (B D), .int .i64 kk] w (ContentPost es[kk].hdr es[kk].data w) := by
  obtain ⟨h1, h2, h3, h4⟩ := good_parts h
  obtain ⟨b, k, hA, hp⟩ := arc_good h hL hbad
  have hc : (hsOf es 0).length = n2 D (D.length - b + k + 10) := by
    rw [hsOf_length, hp, hL.n2 10 (by omega), hL.ebytes.f10]
  have hx := hsOf_get es 0 kk hk
  rw [Nat.zero_add] at hx
  have hok : entryOk es[kk] = true := List.all_eq_true.1 h1 _ (List.getElem_mem hk)
  exact content_any pre.length b k N0 kk _ D _ es[kk].data (hsOf es 0) (es[kk].hdr, (filesL (es.take kk)).length) E0 w hE hA hc hx (fileText_of hk hL.eq hok hL.pre hL.F hst)
/-- The entry that tries whether a file is read. -/
def e0 : E := { hdr := { name := [97], comment := [], extra := [], non := false, creator := 0, reader := 0, flags := 0, method := 0, time := 0, date := 0, crc := 0, packed := 0, size := 0, ext := 0 }, data := [98] }
set_option maxRecDepth 100000 in
theorem good_e0 : goodB [storedE e0] [] = true := by decide +kernel
theorem slash_e0 : slash (storedE e0).hdr.name = false := by decide
set_option maxRecDepth 100000 in
set_option maxHeartbeats 1000000 in
theorem reads_any {N0 : Nat} {E0 : Errs} (w : World) (hE : Env w N0 E0) : Calls Tryz.prog 14 #[] w fun e w' => e = .returned (.bool true) ∧ Below w.heap.size w w' := by
  go_enter Tryz.func14, Tryz.ntmps14
  have HE := Lib.hid hE
  clear hE
  go_wp2_with fail
  have hli : IsList (w.alloc (.cells e0.cells.toArray 38)) (.slice (some ⟨w.heap.size, 0, none⟩) 1 1) [e0] := ⟨_, 1, rfl, fun _ => ⟨w.heap.size, 0, rfl, by simp, fun k e he => by
    cases k with
    | zero => simp at he; subst he; simpa using rangeAt_new w e0.cells 38
    | succ k => simp at he⟩⟩
  have hf0 : Fr (fun _ => False) w (w.alloc (.cells e0.cells.toArray 38)) := (Fr.refl _ _).alloc _
  have HF0 := Lib.hid hf0
  have HA := Lib.hid (allStored_any [e0] _ _ hli (by decide) (by intro e he; simp at he; subst he; decide))
  clear hli hf0
  refine HA.out.mono ?_
  rintro e w1 ⟨u, rfl, hown, hb1⟩
  have hb1' : Below w.heap.size w w1 := (HF0.out.trans2 (Fr.of_below (S := fun _ => False) hb1) (U := fun _ => False) (fun _ h => h) (fun _ h => h)).below (Nat.le_refl _) (fun _ _ h => h)
  have hown' : w1.ownsRow (w.alloc (.cells e0.cells.toArray 38)).heap.size 38 15 u [storedE e0].length (rows [storedE e0]) := hown
  have HL1 := Lib.hid (isList_own hown')
  have HB1 := Lib.hid hb1'
  clear hown hown' hb1 hb1' HA HF0
  have hfe := filesL_ok (good_parts good_e0).1
  have hde := dirL_ok (good_parts good_e0).1 0
  have HAR := Lib.hid (archive_any [storedE e0] [] u w1 HL1.out (by decide) (fun e he => by
    have := entryOk_small (List.all_eq_true.1 (good_parts good_e0).1 e he)
    exact ⟨this.1, by omega⟩) (by simp at hfe; omega) (by simp at hde; omega) (by simp))
  clear hfe hde
  go_wp2_with fail
  refine HAR.out.mono ?_
  rintro e w2 ⟨rfl, hb2⟩
  have HB2 := Lib.hid (below_up HB1.out hb2)
  have HC := Lib.hid (content_good (N0 := N0) (E0 := E0) (w := w2) (kk := 0) (HE.out.below HB2.out) good_e0 (good_lay good_e0) (.inl rfl) (by decide) (fun _ _ => ⟨rfl, Int.le_refl _, by decide⟩))
  clear hb2 HAR
  go_wp2_with fail
  refine HC.out.mono ?_
  rintro e w3 ⟨l, n, rfl, hn, hb3⟩
  obtain ⟨q1, q2, q3⟩ := hn.out
  obtain ⟨r1, r2, r3, r4⟩ := q3 slash_e0 rfl
  obtain rfl : n = 0 := r4 rfl (.inr rfl)
  obtain rfl : l = [98] := r1 rfl
  have HB3 := Lib.hid (below_up HB2.out hb3.out)
  clear hn hb3 q1 q2 q3 r1 r2 r3 r4 HC
  go_wp2
  go_ret
  exact ⟨rfl, HB3.out⟩
end Go.Proofs.Zip
namespace Go.Proofs.Zip
open Go Go.RowKit
/-! What the laws on contents share. -/
theorem slash_eq (l : List UInt8) : slash l = endsSlash l := by
  unfold slash endsSlash Lib.hasSuffix
  rw [Bool.eq_iff_iff, List.isSuffixOf_iff_suffix, beq_iff_eq]
  constructor
  · rintro ⟨t, rfl⟩; simp
  · intro h
    obtain ⟨ys, rfl⟩ := List.getLast?_eq_some_iff.1 h
    exact ⟨ys, rfl⟩
theorem simple_bit {h : H} (hk : 0 ≤ h.flags ∧ h.flags ≤ 65535) (hs : simpleB h = true) : (bits .and .u16 h.flags 8 != 0) = false := by
  obtain ⟨n, hn⟩ := Int.eq_ofNat_of_zero_le hk.1
  have hn2 : n ≤ 65535 := by omega
  unfold simpleB at hs
  rw [hn] at hs ⊢
  have hs2 : (n / 8) % 2 = 0 := by
    have e : (wrap64 ((n : Int).tdiv 8)).tmod 2 = (((n / 8) % 2 : Nat) : Int) := by
      rw [show (n : Int).tdiv 8 = ((n / 8 : Nat) : Int) by rw [Int.tdiv_eq_ediv_of_nonneg (by omega)]; omega]
      rw [wrap64_small (by omega) (by omega), Int.tmod_eq_emod_of_nonneg (by omega)]; omega
    have : ((wrap64 ((n : Int).tdiv 8)).tmod 2 == 0) = true := hs
    rw [e] at this
    simp at this
    omega
  rw [show (8 : Int) = ((8 : Nat) : Int) from rfl, u16_and_nat n 8 (by omega) (by decide)]
  have : n &&& 8 = 0 := by
    apply Nat.eq_of_testBit_eq
    intro i
    rw [Nat.testBit_and, Nat.zero_testBit]
    by_cases hi : i = 3
    · subst hi
      have : n.testBit 3 = decide (n / 2 ^ 3 % 2 = 1) := Nat.testBit_eq_decide_div_mod_eq
      rw [this]
      have : (2 : Nat) ^ 3 = 8 := rfl
      rw [this]
      simp [hs2]
    · have : Nat.testBit 8 i = false := by
        rw [show (8 : Nat) = 2 ^ 3 from rfl, Nat.testBit_two_pow]; simp; omega
      rw [this, Bool.and_false]
  rw [this]; rfl
/-- What zzFits1 gives. -/
theorem fits1_small {es : List E} (h : fits1 es = true) : es.length ≤ 2147483647 ∧ ∀ e ∈ es, e.data.length ≤ 2147483647 := by
  simp only [fits1, Bool.and_eq_true, decide_eq_true_eq, List.all_eq_true, fits2] at h
  exact ⟨h.1, fun e he => (h.2 e he).2⟩
theorem dirOk_of {es : List E} (h : directoriesB es = true) {k : Nat} (hk : k < es.length) (hs : slash es[k].hdr.name = true) : es[k].data = [] := by
  have := List.all_eq_true.1 h _ (List.getElem_mem hk)
  rw [slash_eq] at hs
  simp only [dirOk, hs, Bool.true_and, Bool.not_not, List.isEmpty_iff] at this
  exact this
/-- A struct that is loaded under a guard. -/
theorem wpList_load_want {P : Program} {ops : Array Oper} {rest : List Oper} {op : Oper} {a : Act} {w : World} {Q : Exit → Act → World → Prop} (ty : TypeId) (x : Operand) (ho : op.op = .load ty x)
    (b o : Nat) (hx : a.eval x = .pointer (some ⟨b, o, none⟩)) (cs : List Value) (d : TypeDesc) (hc : w.rangeAt b o cs) (hu : P.underlying ty = some d) (hd : d.isRow = true) (hi : (P.info? ty).map (·.size) = some cs.length)
    (hw : Region.wanted op (yielded ops a.tmps) = true) (h : wpList P ops Q rest (a.put op.dst (.agg cs.toArray)) w) : wpList P ops Q (op :: rest) a w :=
  BigFrame.wpList_want hw fun _ hK => wp_load_mid ty x ho b o hx cs d hc hu hd hi (hK _ _ h)
/-- The k-th entry of a list, where it lies. -/
theorem IsList.at {w : World} {v : Value} {es : List E} (h : IsList w v es) {k : Nat} (hk : k < es.length) : ∃ b off cap, v = .slice (some ⟨b, off, none⟩) es.length cap ∧ b < w.heap.size ∧ w.rangeAt b (off + k * 15) es[k].cells := by
  obtain ⟨a, cap, rfl, hl⟩ := h
  obtain ⟨b, off, rfl, hlt, hr⟩ := hl (fun e => by simp [e] at hk)
  exact ⟨b, off, cap, rfl, hlt, hr k _ (List.getElem?_eq_getElem hk)⟩
end Go.Proofs.Zip
