/- A part of a proof over the given program: Nz, Fr520, Cl. Nothing is assumed here. -/
import Derived.Test.YtidmhfhfcoljeaaGreatDoorZWa
import Derived.Test.YtidmhfhfcoljeaaGreatDoorZE
import Derived.Test.YtidmhfhfcoljeaaGreatDoorZJ
import Derived.Deep.LoopGhost
namespace Go.Proofs.Zip
open Go Go.RowKit
/-! NewWriter, SetComment, String. -/
theorem assert_bw (b : Nat) (w : World) : (Instr.typeAssert (.iface 93 (.pointer (some ⟨b, 0, none⟩))) 101 127 true).run Tryz.prog w = .ok (.tuple #[.pointer none, .bool false]) w := by kernel_rfl
set_option maxRecDepth 100000 in
set_option maxHeartbeats 2000000 in
theorem newBw_any (b : Nat) (w : World) :
    Calls Tryz.prog 91 #[.iface 93 (.pointer (some ⟨b, 0, none⟩)), .int .i64 4096] w fun e w' => ∃ (n : Nat) (cs : Array Value), e = .returned (.pointer (some ⟨n, 0, none⟩)) ∧ Hid (Blk w' n #[.nilIface, .slice (some ⟨w.heap.size, 0, none⟩) 4096 4096, .int .i64 0, .iface 93 (.pointer (some ⟨b, 0, none⟩))] 240 ∧ Blk w' w.heap.size cs 5 ∧ cs.size = 4096 ∧ w.heap.size < n ∧ Below w.heap.size w w') := by
  go_enter Tryz.func91, Tryz.ntmps91
  have hta := assert_bw b
  go_wp2_with (refine wpList_make_bytes rfl _ _ rfl 4096 rfl rfl (by decide) ?_)
  intro w1 cs h1 h2 h3 h4
  have H1 := Lib.hid h1
  have H2 := Lib.hid h2
  have H3 := Lib.hid h3
  have H4 := Lib.hid h4
  clear h1 h2 h3 h4
  go_wp2
  go_ret
  exact ⟨w1.heap.size, cs, rfl, Lib.hid ⟨Blk.new _ _ _, H1.out.alloc _, H2.out, H4.out, H3.out.alloc (Nat.le_of_lt H4.out) _⟩⟩
set_option maxRecDepth 100000 in
set_option maxHeartbeats 2000000 in
theorem newWriter_any (b : Nat) (w : World) (hb : Blk w b #[.pointer none, .slice none 0 0] 95) :
    Calls Tryz.prog 42 #[.iface 93 (.pointer (some ⟨b, 0, none⟩))] w fun e w' => ∃ (O : Wr) (z : Nat), e = .returned (.pointer (some ⟨z, 0, none⟩)) ∧ Hid (O.sb = b ∧ O.base = b ∧ Zw w' O z [] none none none [] (.pointer none) ∧ Below w.heap.size w w' ∧ ∀ x, x < w.heap.size → Zall O none z none none x → x = b) := by
  have HN := Lib.hid (newBw_any b w)
  have HB := Lib.hid hb
  clear hb
  go_enter Tryz.func42, Tryz.ntmps42
  go_wp2_with (first | (go_at_call 64; go_in) | (go_at_call 91; refine HN.out.mono ?_; rintro e w1 ⟨n, cs, rfl, h1⟩))
  go_ret
  refine ⟨⟨b, n, w.heap.size, w1.heap.size, b⟩, w1.heap.size + 1, rfl, Lib.hid ⟨rfl, rfl, ?_, ?_, ?_⟩⟩
  · obtain ⟨hn, hbb, hcs, hlt, hbl⟩ := h1.out
    have hnl := hn.lt
    have hbl0 := HB.out.lt
    have hwl := hbb.lt
    have hB1 := below_blk hbl HB.out
    refine ⟨⟨⟨?_, ?_, ?_, ?_, ?_, ?_, ?_, ?_, ?_, ?_⟩, ⟨⟨[], [], cs, rfl, ⟨⟨_, _, (hB1.alloc _).alloc _, .inl rfl, ⟨rfl, .inl ⟨rfl, rfl⟩⟩, rfl, by simp⟩, (hn.alloc _).alloc _, ?_, hcs, by simp, by simp, by simp⟩⟩, (Blk.new _ _ _).alloc _, by simp⟩, ⟨.slice none 0 0, Blk.new' _ _ (by simp), ⟨rfl, .inl ⟨rfl, rfl⟩⟩, rfl⟩, ⟨?_, by simp, by simp⟩, (fun d e => by cases e), (fun l e => by cases e), (fun e he => by simp at he), ⟨?_, ?_⟩, by simp⟩, (fun e he => by simp at he), .none⟩
    all_goals first | (rw [put_nil]; exact (hbb.alloc _).alloc _) | skip
    all_goals simp only [World.size_alloc, Wr.all, Wr.turns]
    all_goals first | omega | (rintro ((e | e | e | e) | e) <;> first | omega | cases e)
  · exact ((h1.out.2.2.2.2).alloc h1.out.2.2.2.2.size _).alloc (by have := h1.out.2.2.2.2.size; simp; omega) _
  · have h2 := h1.out.2.2.2.2.size
    have h3 := h1.out.2.2.2.1
    rintro x hx ((( e | e | e | e) | e) | e | e | e)
    · exact e
    · have e' : x = n := e; omega
    · have e' : x = w.heap.size := e; omega
    · cases e
    · have e' : x = w1.heap.size := e; omega
    · omega
    · cases e
    · cases e
set_option maxRecDepth 100000 in
theorem setComment_any (z : Nat) (cm c : List UInt8) (w : World) (k5 : w.cell? ⟨z, 5, none⟩ = some (.string (B cm))) (f5 : w.frozen? ⟨z, 5, none⟩ = false) (hc : c.length ≤ 65535) :
    Calls Tryz.prog 66 #[.pointer (some ⟨z, 0, none⟩), .string (B c)] w fun e w' => e = .returned .nilIface ∧ w.setCell ⟨z, 5, none⟩ (.string (B c)) = w' := by
  have hcl : ¬ ((65535 : Int) < c.length) := by omega
  go_enter Tryz.func66, Tryz.ntmps66
  go_wp2
  go_ret
  exact ⟨rfl, rfl⟩
/-- What a builder holds. -/
theorem bldString_any (base b : Nat) (L : List UInt8) (ob : Option Nat) (w : World) (h : Bld w base b L ob) (hb0 : base ≤ b) :
    Calls Tryz.prog 68 #[.pointer (some ⟨b, 0, none⟩)] w fun e w' => e = .returned (.string (B L)) ∧ Below base w w' := by
  have hbl := h.lt
  refine Tryz.Builder_String_any base b L w ?_ (by omega)
  obtain ⟨adr, v, hb, ha, ho, hob, hne⟩ := h
  have hl : (Lib.byteCells L).length = L.length := by rw [byteCells_u8s]; exact length_u8s L
  rcases ha with rfl | rfl
  · exact .inl ⟨hb0, v, hb, by rw [hl, byteCells_u8s]; exact ho, by rw [hob]; exact hne⟩
  · exact .inr ⟨hb0, v, hb, by rw [hl, byteCells_u8s]; exact ho, by rw [hob]; exact hne⟩
end Go.Proofs.Zip
namespace Go.Proofs.Zip
open Go Go.RowKit
set_option maxRecDepth 100000 in
/-- A frame of 520 slots, written out. -/
theorem frame520 (a : Act) (hs : a.tmps.size = 520) (hd : a.defers = []) : ∃ u : Nat → Value, a = ⟨(u 0 :: u 1 :: u 2 :: u 3 :: u 4 :: u 5 :: u 6 :: u 7 :: u 8 :: u 9 :: u 10 :: u 11 :: u 12 :: u 13 :: u 14 :: u 15 :: u 16 :: u 17 :: u 18 :: u 19 :: u 20 :: u 21 :: u 22 :: u 23 :: u 24 :: u 25 :: u 26 :: u 27 :: u 28 :: u 29 :: u 30 :: u 31 :: u 32 :: u 33 :: u 34 :: u 35 :: u 36 :: u 37 :: u 38 :: u 39 :: u 40 :: u 41 :: u 42 :: u 43 :: u 44 :: u 45 :: u 46 :: u 47 :: u 48 :: u 49 :: u 50 :: u 51 :: u 52 :: u 53 :: u 54 :: u 55 :: u 56 :: u 57 :: u 58 :: u 59 :: u 60 :: u 61 :: u 62 :: u 63 :: u 64 :: u 65 :: u 66 :: u 67 :: u 68 :: u 69 :: u 70 :: u 71 :: u 72 :: u 73 :: u 74 :: u 75 :: u 76 :: u 77 :: u 78 :: u 79 :: u 80 :: u 81 :: u 82 :: u 83 :: u 84 :: u 85 :: u 86 :: u 87 :: u 88 :: u 89 :: u 90 :: u 91 :: u 92 :: u 93 :: u 94 :: u 95 :: u 96 :: u 97 :: u 98 :: u 99 :: u 100 :: u 101 :: u 102 :: u 103 :: u 104 :: u 105 :: u 106 :: u 107 :: u 108 :: u 109 :: u 110 :: u 111 :: u 112 :: u 113 :: u 114 :: u 115 :: u 116 :: u 117 :: u 118 :: u 119 :: u 120 :: u 121 :: u 122 :: u 123 :: u 124 :: u 125 :: u 126 :: u 127 :: u 128 :: u 129 :: u 130 :: u 131 :: u 132 :: u 133 :: u 134 :: u 135 :: u 136 :: u 137 :: u 138 :: u 139 :: u 140 :: u 141 :: u 142 :: u 143 :: u 144 :: u 145 :: u 146 :: u 147 :: u 148 :: u 149 :: u 150 :: u 151 :: u 152 :: u 153 :: u 154 :: u 155 :: u 156 :: u 157 :: u 158 :: u 159 :: u 160 :: u 161 :: u 162 :: u 163 :: u 164 :: u 165 :: u 166 :: u 167 :: u 168 :: u 169 :: u 170 :: u 171 :: u 172 :: u 173 :: u 174 :: u 175 :: u 176 :: u 177 :: u 178 :: u 179 :: u 180 :: u 181 :: u 182 :: u 183 :: u 184 :: u 185 :: u 186 :: u 187 :: u 188 :: u 189 :: u 190 :: u 191 :: u 192 :: u 193 :: u 194 :: u 195 :: u 196 :: u 197 :: u 198 :: u 199 :: u 200 :: u 201 :: u 202 :: u 203 :: u 204 :: u 205 :: u 206 :: u 207 :: u 208 :: u 209 :: u 210 :: u 211 :: u 212 :: u 213 :: u 214 :: u 215 :: u 216 :: u 217 :: u 218 :: u 219 :: u 220 :: u 221 :: u 222 :: u 223 :: u 224 :: u 225 :: u 226 :: u 227 :: u 228 :: u 229 :: u 230 :: u 231 :: u 232 :: u 233 :: u 234 :: u 235 :: u 236 :: u 237 :: u 238 :: u 239 :: u 240 :: u 241 :: u 242 :: u 243 :: u 244 :: u 245 :: u 246 :: u 247 :: u 248 :: u 249 :: u 250 :: u 251 :: u 252 :: u 253 :: u 254 :: u 255 :: u 256 :: u 257 :: u 258 :: u 259 :: u 260 :: u 261 :: u 262 :: u 263 :: u 264 :: u 265 :: u 266 :: u 267 :: u 268 :: u 269 :: u 270 :: u 271 :: u 272 :: u 273 :: u 274 :: u 275 :: u 276 :: u 277 :: u 278 :: u 279 :: u 280 :: u 281 :: u 282 :: u 283 :: u 284 :: u 285 :: u 286 :: u 287 :: u 288 :: u 289 :: u 290 :: u 291 :: u 292 :: u 293 :: u 294 :: u 295 :: u 296 :: u 297 :: u 298 :: u 299 :: u 300 :: u 301 :: u 302 :: u 303 :: u 304 :: u 305 :: u 306 :: u 307 :: u 308 :: u 309 :: u 310 :: u 311 :: u 312 :: u 313 :: u 314 :: u 315 :: u 316 :: u 317 :: u 318 :: u 319 :: u 320 :: u 321 :: u 322 :: u 323 :: u 324 :: u 325 :: u 326 :: u 327 :: u 328 :: u 329 :: u 330 :: u 331 :: u 332 :: u 333 :: u 334 :: u 335 :: u 336 :: u 337 :: u 338 :: u 339 :: u 340 :: u 341 :: u 342 :: u 343 :: u 344 :: u 345 :: u 346 :: u 347 :: u 348 :: u 349 :: u 350 :: u 351 :: u 352 :: u 353 :: u 354 :: u 355 :: u 356 :: u 357 :: u 358 :: u 359 :: u 360 :: u 361 :: u 362 :: u 363 :: u 364 :: u 365 :: u 366 :: u 367 :: u 368 :: u 369 :: u 370 :: u 371 :: u 372 :: u 373 :: u 374 :: u 375 :: u 376 :: u 377 :: u 378 :: u 379 :: u 380 :: u 381 :: u 382 :: u 383 :: u 384 :: u 385 :: u 386 :: u 387 :: u 388 :: u 389 :: u 390 :: u 391 :: u 392 :: u 393 :: u 394 :: u 395 :: u 396 :: u 397 :: u 398 :: u 399 :: u 400 :: u 401 :: u 402 :: u 403 :: u 404 :: u 405 :: u 406 :: u 407 :: u 408 :: u 409 :: u 410 :: u 411 :: u 412 :: u 413 :: u 414 :: u 415 :: u 416 :: u 417 :: u 418 :: u 419 :: u 420 :: u 421 :: u 422 :: u 423 :: u 424 :: u 425 :: u 426 :: u 427 :: u 428 :: u 429 :: u 430 :: u 431 :: u 432 :: u 433 :: u 434 :: u 435 :: u 436 :: u 437 :: u 438 :: u 439 :: u 440 :: u 441 :: u 442 :: u 443 :: u 444 :: u 445 :: u 446 :: u 447 :: u 448 :: u 449 :: u 450 :: u 451 :: u 452 :: u 453 :: u 454 :: u 455 :: u 456 :: u 457 :: u 458 :: u 459 :: u 460 :: u 461 :: u 462 :: u 463 :: u 464 :: u 465 :: u 466 :: u 467 :: u 468 :: u 469 :: u 470 :: u 471 :: u 472 :: u 473 :: u 474 :: u 475 :: u 476 :: u 477 :: u 478 :: u 479 :: u 480 :: u 481 :: u 482 :: u 483 :: u 484 :: u 485 :: u 486 :: u 487 :: u 488 :: u 489 :: u 490 :: u 491 :: u 492 :: u 493 :: u 494 :: u 495 :: u 496 :: u 497 :: u 498 :: u 499 :: u 500 :: u 501 :: u 502 :: u 503 :: u 504 :: u 505 :: u 506 :: u 507 :: u 508 :: u 509 :: u 510 :: u 511 :: u 512 :: u 513 :: u 514 :: u 515 :: u 516 :: u 517 :: u 518 :: u 519 :: []).toArray, []⟩ ∧ ∀ i, i < 520 → u i = a.tmps.getD i undef := by
  obtain ⟨t, d⟩ := a
  simp only at hs hd
  subst hd
  refine ⟨fun i => t.toList.getD i undef, ?_, fun i hi => ?_⟩
  · have h := list_tab undef t.toList
    have hl : t.toList.length = 520 := by simpa using hs
    rw [hl] at h
    have e : t = (List.map (fun i => t.toList.getD i undef) (List.range 520)).toArray := by
      apply Array.toList_inj.1
      rw [← h]
    generalize (fun i => t.toList.getD i undef) = u at e ⊢
    rw [e]; rfl
  · simp only [Array.getD_eq_getD_getElem?, List.getD_eq_getElem?_getD, Array.getElem?_toList]
end Go.Proofs.Zip
namespace Go.Proofs.Zip
open Go Go.RowKit
/-! Close: the directory and the end. -/
def entsL (es : List Ent) : List UInt8 := es.flatMap fun e => centralL e.h e.off
theorem entsL_append (a b : List Ent) : entsL (a ++ b) = entsL a ++ entsL b := by simp [entsL]
theorem leB_zero4 : leB 2 0 = [0, 0] := by decide +kernel
theorem entsL_one (e : Ent) : entsL [e] = centralL e.h e.off := by simp [entsL]
theorem entsL_take (es : List Ent) (i : Nat) : (entsL (es.take i)).length ≤ (entsL es).length := by
  conv => rhs; rw [← List.take_append_drop i es, entsL_append]
  rw [List.length_append]; omega
theorem nilf_neqC (w : World) : (binOp .neq 134 .nilFunc .nilFunc).run Tryz.prog w = .ok (.bool false) w := by kernel_rfl
theorem assert_bwv (O : Wr) (w : World) : (Instr.typeAssert (bwv O) 101 127 false).run Tryz.prog w = .ok (.pointer (some ⟨O.bw, 0, none⟩)) w := by kernel_rfl
/-- The frame of Close at its beginning. -/
def Rc0 (z : Nat) (S : Act → World → Prop) (a : Act) (w : World) : Prop := a.tmps.size = 520 ∧ a.defers = [] ∧ a.tmps.getD 0 undef = .pointer (some ⟨z, 0, none⟩) ∧ a.tmps.getD 2 undef = .nilIface ∧ S a w
/-- The frame of Close at its loop, n rounds to come. -/
def LpC (w0 : World) (T : Nat → Prop) (O : Wr) (z : Nat) (L : List UInt8) (db lw : Option Nat) (es : List Ent) (lv : Value) (cm : List UInt8) (vx : Option Addr) (vcap : Nat) (n : Nat) (x : Act) (w : World) : Prop := n ≤ es.length ∧ x.tmps.size = 520 ∧ x.defers = [] ∧ x.tmps.getD 0 undef = .pointer (some ⟨z, 0, none⟩) ∧ x.tmps.getD 2 undef = .nilIface ∧
  x.tmps.getD 4 undef = .int .i64 L.length ∧ x.tmps.getD 5 undef = .bool false ∧ x.tmps.getD 82 undef = .slice vx es.length vcap ∧ x.tmps.getD 83 undef = .int .i64 es.length ∧ x.tmps.getD 84 undef = .int .i64 (es.length - n : Nat) ∧
  w.cell? ⟨z, 1, none⟩ = some (.slice vx es.length vcap) ∧ ∃ ob', Hid (ZwK w O z (L ++ entsL (es.take (es.length - n))) ob' db lw es lv true cm ∧ Fr T w0 w ∧ ∀ b, b < w0.heap.size → Zall O ob' z db lw b → T b)
/-- The frame of Close within a round: v lies in slot k. -/
def FcA (z n4 hb : Nat) (vx : Option Addr) (len vcap i k : Nat) (v : Value) (S : World → Prop) (a : Act) (w : World) : Prop := a.tmps.size = 520 ∧ a.defers = [] ∧ a.tmps.getD 0 undef = .pointer (some ⟨z, 0, none⟩) ∧ a.tmps.getD 2 undef = .nilIface ∧ a.tmps.getD 4 undef = .int .i64 n4 ∧ a.tmps.getD 5 undef = .bool false ∧ a.tmps.getD 7 undef = .pointer (some ⟨hb, 0, none⟩) ∧
  a.tmps.getD 82 undef = .slice vx len vcap ∧ a.tmps.getD 83 undef = .int .i64 len ∧ a.tmps.getD 84 undef = .int .i64 i ∧ a.tmps.getD k undef = v ∧ S w
/-- The frame of Close at its end: v lies in slot k. -/
def FcE (z k : Nat) (v : Value) (S : World → Prop) (a : Act) (w : World) : Prop := a.tmps.size = 520 ∧ a.defers = [] ∧ a.tmps.getD 0 undef = .pointer (some ⟨z, 0, none⟩) ∧ a.tmps.getD 2 undef = .nilIface ∧ a.tmps.getD k undef = v ∧ S w
set_option maxRecDepth 100000 in
set_option maxHeartbeats 60000000 in
theorem closeK_any (O : Wr) (z : Nat) (L : List UInt8) (db lw : Option Nat) (es : List Ent) (lv : Value) (cm : List UInt8) (w : World) (R : World → Prop) (T : Nat → Prop) (c2 : w.cell? ⟨z, 2, none⟩ = some lv) (hl : LastK w lw R lv)
    (hR : ∀ w1, R w1 → ∃ ob1, ZwK w1 O z L ob1 db lw es lv false cm ∧ Fr T w w1 ∧ ∀ b, b < w.heap.size → Zall O ob1 z db lw b → T b) (hn : es.length ≤ 65534) (hcm : cm.length ≤ 65535) (hlen : (L ++ entsL es).length ≤ 4294967294) (hoff : ∀ e ∈ es, e.off ≤ 4294967294) :
    Calls Tryz.prog 67 #[.pointer (some ⟨z, 0, none⟩)] w fun e w' => e = .returned .nilIface ∧ ∃ ob', Hid (Bld w' O.base O.sb (L ++ entsL es ++ endL es.length (entsL es).length L.length cm) ob' ∧ Fr T w w') := by
  go_enter Tryz.func67, Tryz.ntmps67
  go_upto_region 1 with fail
  refine wp_cut (Rc0 z (fun a w1 => (∃ b : Bool, a.tmps.getD 52 undef = .bool b ∧ (b = false → R w) ∧ (b = true → ∃ l, lv = .pointer (some ⟨l, 0, none⟩) ∧ Calls Tryz.prog 93 #[.pointer (some ⟨l, 0, none⟩)] w (fun e w' => e = .returned .nilIface ∧ Hid (R w')))) ∧ w1 = w)) ?rest ?first
  case first =>
    intro J K hJ hK
    cases hl with
    | none hr =>
      have HR := Lib.hid hr
      clear hr
      as_aux_lemma =>
        go_wp2_with fail
        all_goals refine Met.intro (hJ _ _ ?_)
        all_goals exact ⟨rfl, rfl, rfl, rfl, ⟨false, rfl, (fun _ => HR.out), (fun h => by cases h)⟩, rfl⟩
    | shut l e0 c6 hr =>
      have HR := Lib.hid hr
      clear hr e0
      as_aux_lemma =>
        go_wp2_with fail
        all_goals refine Met.intro (hJ _ _ ?_)
        all_goals exact ⟨rfl, rfl, rfl, rfl, ⟨false, rfl, (fun _ => HR.out), (fun h => by cases h)⟩, rfl⟩
    | opened l e0 c6 hc =>
      have HC := Lib.hid hc
      clear hc e0
      as_aux_lemma =>
        go_wp2_with fail
        all_goals refine Met.intro (hJ _ _ ?_)
        all_goals exact ⟨rfl, rfl, rfl, rfl, ⟨true, rfl, (fun h => by cases h), fun _ => ⟨l, rfl, HC.out⟩⟩, rfl⟩
  case rest =>
    intro a' w1 hR1
    obtain ⟨hr1, hr2, r0, r2, ⟨b, r52, hbf, hbt⟩, rfl⟩ := hR1
    obtain ⟨u, rfl, hu⟩ := frame520 a' hr1 hr2
    have u0 := (hu 0 (by decide)).trans r0
    have u2 := (hu 2 (by decide)).trans r2
    have u52 := (hu 52 (by decide)).trans r52
    clear hu hr1 hr2 r0 r2 r52
    rw [u0, u2, u52]
    clear u0 u2 u52
    go_upto_if 52 with fail
    refine wp_cut (Rc0 z (fun _ w2 => ∃ ob1 lw' lv', Hid (ZwK w2 O z L ob1 db lw' es lv' false cm ∧ Fr T w1 w2 ∧ ∀ b, b < w1.heap.size → Zall O ob1 z db lw' b → T b))) ?rest2 ?first2
    case first2 =>
      intro J K hJ hK
      cases b with
      | false =>
        obtain ⟨ob1, h1⟩ := hR w1 (hbf rfl)
        have FIN := Lib.hid h1
        clear hbf hbt hl c2 h1
        as_aux_lemma =>
          go_wp2_with fail
          all_goals refine Met.intro (hJ _ _ ?_)
          all_goals exact ⟨rfl, rfl, rfl, rfl, ob1, lw, lv, FIN⟩
      | true =>
        obtain ⟨l, rfl, hc⟩ := hbt rfl
        have HC := Lib.hid hc
        clear hbf hbt hl hc
        as_aux_lemma =>
          go_upto_region 5 with (go_at_call 93; refine HC.out.mono ?_; rintro e' w2 ⟨rfl, h2⟩)
          obtain ⟨ob1, Z2, F2, T2⟩ := hR _ h2.out
          have f2 : w2.frozen? ⟨z, 2, none⟩ = false := by obtain ⟨dv, hzb, _⟩ := Z2.zb; exact hzb.frozen 2
          have c2 : w2.cell? ⟨z, 2, none⟩ = some (.pointer (some ⟨l, 0, none⟩)) := by obtain ⟨dv, hzb, _⟩ := Z2.zb; exact hzb.cell 2
          have Z3 := Z2.setLast none (.pointer none) (fun l e => by cases e) (fun e _ => ⟨by simp, by simp, fun d _ => by simp⟩)
          have FIN : Hid (ZwK (w2.setCell ⟨z, 2, none⟩ (.pointer none)) O z L ob1 db none es (.pointer none) false cm ∧ Fr T w1 (w2.setCell ⟨z, 2, none⟩ (.pointer none)) ∧ ∀ b, b < w1.heap.size → Zall O ob1 z db none b → T b) := Lib.hid ⟨Z3, F2.setCell (fun hb => T2 _ hb (.inr (.inl rfl))) _, fun b hb k => T2 b hb (by
            rcases k with k | k | k | k
            · exact .inl k
            · exact .inr (.inl k)
            · exact .inr (.inr (.inl k))
            · cases k)⟩
          clear Z2 Z3 F2 T2 h2 HC hR
          go_wp2_with fail
          all_goals refine Met.intro (hJ _ _ ?_)
          all_goals exact ⟨rfl, rfl, rfl, rfl, ob1, none, _, FIN⟩
    case rest2 =>
      clear hl hR hbf hbt c2
      intro a2 w2 hR
      obtain ⟨hr1, hr2, r0, r2, ob, lw', lv', h2⟩ := hR
      obtain ⟨v, rfl, hv⟩ := frame520 a2 hr1 hr2
      have v0 := (hv 0 (by decide)).trans r0
      have v2 := (hv 2 (by decide)).trans r2
      clear hv hr1 hr2 r0 r2
      rw [v0, v2]
      clear v0 v2
      obtain ⟨k0, k3, f3⟩ : w2.cell? ⟨z, 0, none⟩ = some (.pointer (some ⟨O.cw, 0, none⟩)) ∧ w2.cell? ⟨z, 3, none⟩ = some (.bool false) ∧ w2.frozen? ⟨z, 3, none⟩ = false := by
        obtain ⟨dv, hzb, _⟩ := h2.out.1.zb
        exact ⟨hzb.cell 0, hzb.cell 3, hzb.frozen 3⟩
      obtain ⟨Z3, F3⟩ := h2.out.1.setZ 3 (.bool true) true cm (fun _ => rfl)
      have F13 : Hid (Fr T w1 (w2.setCell ⟨z, 3, none⟩ (.bool true))) := Lib.hid (h2.out.2.1.setCell (fun hb => h2.out.2.2 _ hb (.inr (.inl rfl))) _)
      have A3 := Lib.hid h2.out.2.2
      clear F3 h2
      go_upto_region 9 with fail
      generalize w2.setCell ⟨z, 3, none⟩ (.bool true) = w3 at Z3 F13 ⊢
      have HZ3 := Lib.hid Z3
      obtain ⟨dv, hzb, hown, hdb⟩ := Z3.zb
      obtain ⟨vx, vcap, rfl⟩ := own_form hown
      have k0' : w3.cell? ⟨z, 0, none⟩ = some (.pointer (some ⟨O.cw, 0, none⟩)) := hzb.cell 0
      have k1' : w3.cell? ⟨z, 1, none⟩ = some (.slice vx es.length vcap) := hzb.cell 1
      have k4' : w3.cell? ⟨O.cw, 1, none⟩ = some (.int .i64 L.length) := Z3.out.cw.cell 1
      clear k0 k3 f3 Z3 hzb hown hdb
      go_upto_block 0 with fail
      have K1 := Lib.hid k1'
      clear k0' k1' k4'
      -- the directory and the end, the loop first
      refine wp_cut (LpC w1 T O z L db lw' es lv' cm vx vcap 0) ?rest3 ?first3
      case first3 =>
          intro J K hJ hK
          go_wp2_with fail
          refine wp_loop_ghost_k (LpC w1 T O z L db lw' es lv' cm vx vcap) es.length ?start ?round
          case start =>
            refine ⟨Nat.le_refl _, rfl, rfl, rfl, rfl, rfl, rfl, rfl, rfl, ?_, K1.out, ob, Lib.hid ⟨?_, F13.out, A3.out⟩⟩
            · rw [Nat.sub_self]; rfl
            · rw [Nat.sub_self]
              have := HZ3.out
              simpa [entsL] using this
          case round =>
            clear K1 HZ3 F13 A3
            intro n x wr hI J2 K2 hJ2 hK2
            obtain ⟨hn1, q1, q2, r0, r2, r4, r5, r82, r83, r84, hz1, ob1, hS⟩ := hI
            obtain ⟨u, rfl, hu⟩ := frame520 x q1 q2
            have u0 := (hu 0 (by decide)).trans r0
            have u2 := (hu 2 (by decide)).trans r2
            have u4 := (hu 4 (by decide)).trans r4
            have u5 := (hu 5 (by decide)).trans r5
            have u82 := (hu 82 (by decide)).trans r82
            have u83 := (hu 83 (by decide)).trans r83
            have u84 := (hu 84 (by decide)).trans r84
            clear hu q1 q2 r0 r2 r4 r5 r82 r83 r84
            obtain ⟨i, hi⟩ : ∃ i, i = es.length - n := ⟨_, rfl⟩
            rw [← hi] at u84 hS
            rw [u0, u2, u4, u5, u82, u83, u84]
            clear u0 u2 u4 u5 u82 u83 u84
            have HS := Lib.hid hS
            have HZ1 := Lib.hid hz1
            by_cases hn0 : n = 0
            · have hie : i = es.length := by omega
              subst hn0
              have HIE := Lib.hid hie
              have hlt : ¬ i < es.length := by omega
              have HI := Lib.hid hi
              clear hS hz1 hie hi hn1
              as_aux_lemma =>
                go_wp2_with fail
                all_goals refine Met.intro (hJ _ _ ?_)
                all_goals exact ⟨Nat.zero_le _, rfl, rfl, rfl, rfl, rfl, rfl, rfl, rfl, by rw [← HI.out]; rfl, HZ1.out, ob1, by rw [← HI.out]; exact HS.out⟩
            · have hlt : i < es.length := by omega
              have HN : Hid (n ≠ 0 ∧ n ≤ es.length ∧ i = es.length - n) := Lib.hid ⟨hn0, hn1, hi⟩
              obtain ⟨g, rfl, hg, hcap⟩ := HS.out.1.entAt vx vcap hz1 i hlt
              obtain ⟨en, hen⟩ : ∃ en, en = es[i] := ⟨_, rfl⟩
              rw [← hen] at hg
              have hem : en ∈ es := by rw [hen]; exact List.getElem_mem hlt
              have HEN : Hid (es.take (i + 1) = es.take i ++ [en]) := Lib.hid (by rw [hen]; simp [List.take_append_getElem])
              have hE := HS.out.1.ent en hem
              have hoffe := hoff en hem
              clear hen hS hz1 hn0 hn1 hi
              obtain ⟨hb, fh, off, raw, h, non, t0, t1, t2, xx, c, uu⟩ := en
              have hHd : Hb wr O ob1 hb fh off raw h non t0 t1 t2 xx c uu := hE.hd
              have hg2 : wr.cell? ⟨g, i, none⟩ = some (.pointer (some ⟨hb, 0, none⟩)) := hg
              have hoff2 : off ≤ 4294967294 := hoffe
              clear hem hg hE hoffe
              have hxf : ∃ a n c, xx = .slice a n c := by
                rcases hHd.bx with ⟨rfl, _⟩ | ⟨d, o, cap, rfl, _⟩
                · exact ⟨_, _, _, rfl⟩
                · exact ⟨_, _, _, rfl⟩
              obtain ⟨xa, xn, xc, rfl⟩ := hxf
              have hxn : xn = h.extra.length := by
                rcases hHd.bx with ⟨e, e2⟩ | ⟨d, o, cap, e, _⟩
                · cases e; rw [e2]; rfl
                · cases e; rfl
              subst hxn
              obtain ⟨ocr, ord, ofl, ome, oti, oda, ocs, opa, osi, oxt, ona, oco, oex⟩ := hHd.ok
              have hbl := hHd.bh.lt
              have fhl := hHd.bf.lt
              have xl := hHd.bx.lt
              have A0 : Hid (wr.cell? ⟨hb, 0, none⟩ = some (.pointer (some ⟨fh, 0, none⟩))) := Lib.hid (hHd.bh.cell 0)
              have A1 : Hid (wr.cell? ⟨hb, 1, none⟩ = some (.int .u64 off)) := Lib.hid (hHd.bh.cell 1)
              have BF := Lib.hid hHd.bf
              have a0 := A0.out
              have a1 := A1.out
              have b4 : wr.cell? ⟨fh, 4, none⟩ = some (.int .u16 h.reader) := hHd.bf.cell 4
              have b15 : wr.cell? ⟨fh, 15, none⟩ = some (.int .u64 h.packed) := hHd.bf.cell 15
              have b16 : wr.cell? ⟨fh, 16, none⟩ = some (.int .u64 h.size) := hHd.bf.cell 16
              have q3 : ¬ ((4294967295 : Int) ≤ h.packed) := by omega
              have q4 : ¬ ((4294967295 : Int) ≤ h.size) := by omega
              have q5 : ¬ ((4294967295 : Int) ≤ (off : Int)) := by omega
              have HH := Lib.hid hHd
              clear hHd
              obtain ⟨LL, hLL⟩ : ∃ LL, LL = L ++ entsL (es.take i) := ⟨_, rfl⟩
              have HLL : Hid (LL = L ++ entsL (es.take i) ∧ LL.length ≤ 4294967294) := Lib.hid ⟨hLL, by
                have := entsL_take es i
                rw [hLL, List.length_append]
                rw [List.length_append] at hlen
                omega⟩
              have HSZ : Hid (ZwK wr O z LL ob1 db lw' es lv' true cm) := Lib.hid (by rw [hLL]; exact HS.out.1)
              clear hLL
              have hzl : z < wr.heap.size := HSZ.out.lt z (.inr (.inl rfl))
              have KZ : Hid (wr.cell? ⟨z, 0, none⟩ = some (.pointer (some ⟨O.cw, 0, none⟩))) := Lib.hid (by obtain ⟨dv, hzb, _⟩ := HSZ.out.zb; exact hzb.cell 0)
              have hO := HSZ.out.ok
              have hbase := HSZ.out.base.1
              go_upto_region 35 with fail
              have W0 : Hid (WB ((wr.alloc (.cells (zeroA 46) 203)).alloc (.cells #[.slice (some ⟨wr.heap.size, 0, none⟩) 46 46] 147)) (wr.heap.size + 1) wr.heap.size 46 [] 203) := Lib.hid ⟨⟨_, Blk.new' _ _ (by simp), fun _ => rfl⟩, by rw [put_nil]; exact (Blk.new _ _ _).alloc _, by simp⟩
              have G0 : Hid (Below wr.heap.size wr ((wr.alloc (.cells (zeroA 46) 203)).alloc (.cells #[.slice (some ⟨wr.heap.size, 0, none⟩) 46 46] 147))) := Lib.hid (((Below.refl wr.heap.size wr).alloc (Nat.le_refl _) _).alloc (by simp) _)
              have hvg : wr.heap.size + 1 ≠ wr.heap.size := by omega
              have VG := Lib.hid hvg
              go_wp2_with (refine wpList_alloc_zero rfl 203 rfl 46 (by kernel_rfl) ?_)
              have rn : IntKind.u16.wrap (h.name.length : Int) = (h.name.length : Int) := by rw [IntKind.wrap_u16]; omega
              have rx : IntKind.u16.wrap (h.extra.length : Int) = (h.extra.length : Int) := by rw [IntKind.wrap_u16]; omega
              have rc : IntKind.u16.wrap (h.comment.length : Int) = (h.comment.length : Int) := by rw [IntKind.wrap_u16]; omega
              have m1 : min h.packed 4294967295 = h.packed := by omega
              have m2 : min h.size 4294967295 = h.size := by omega
              have m3 : min (off : Int) 4294967295 = (off : Int) := by omega
              have r1 : IntKind.u32.wrap h.packed = h.packed := by rw [IntKind.wrap_u32]; omega
              have r2 : IntKind.u32.wrap h.size = h.size := by rw [IntKind.wrap_u32]; omega
              have r3 : IntKind.u32.wrap (off : Int) = (off : Int) := by rw [IntKind.wrap_u32]; omega
              clear hvg a0 a1 b4 b15 b16 q3 q4 q5 hg2
              have S0 := Lib.hid (W0.out.u32i VG.out 33639248 (by omega) (by omega) (by simp))
              go_wp2_with fail
              refine S0.out.mono ?_
              rintro e y1 ⟨rfl, hw, hf⟩
              have W1 := Lib.hid hw
              have G1 : Hid (Below wr.heap.size wr y1) := Lib.hid (G0.out.trans (hf.below G0.out.size (by rintro i hi (e | e) <;> omega)))
              clear hw hf S0 W0 G0
              try clear a0 b1
              have a0 : y1.cell? ⟨hb, 0, none⟩ = some (.pointer (some ⟨fh, 0, none⟩)) := (G1.out.cell (p := ⟨hb, 0, none⟩) hbl).trans A0.out
              have b1 : y1.cell? ⟨fh, 3, none⟩ = some (.int .u16 h.creator) := (G1.out.cell (p := ⟨fh, 3, none⟩) fhl).trans (BF.out.cell 3)
              have S1 := Lib.hid (W1.out.u16i VG.out h.creator (by omega) (by omega) (by simp))
              go_wp2_with fail
              refine S1.out.mono ?_
              rintro e y2 ⟨rfl, hw, hf⟩
              have W2 := Lib.hid hw
              have G2 : Hid (Below wr.heap.size wr y2) := Lib.hid (G1.out.trans (hf.below G1.out.size (by rintro i hi (e | e) <;> omega)))
              clear hw hf S1 W1 G1
              try clear a0 b1
              have S2 := Lib.hid (W2.out.u16i VG.out h.reader (by omega) (by omega) (by simp))
              go_wp2_with fail
              refine S2.out.mono ?_
              rintro e y3 ⟨rfl, hw, hf⟩
              have W3 := Lib.hid hw
              have G3 : Hid (Below wr.heap.size wr y3) := Lib.hid (G2.out.trans (hf.below G2.out.size (by rintro i hi (e | e) <;> omega)))
              clear hw hf S2 W2 G2
              try clear a0 b1
              have a0 : y3.cell? ⟨hb, 0, none⟩ = some (.pointer (some ⟨fh, 0, none⟩)) := (G3.out.cell (p := ⟨hb, 0, none⟩) hbl).trans A0.out
              have b1 : y3.cell? ⟨fh, 5, none⟩ = some (.int .u16 h.flags) := (G3.out.cell (p := ⟨fh, 5, none⟩) fhl).trans (BF.out.cell 5)
              have S3 := Lib.hid (W3.out.u16i VG.out h.flags (by omega) (by omega) (by simp))
              go_wp2_with fail
              refine S3.out.mono ?_
              rintro e y4 ⟨rfl, hw, hf⟩
              have W4 := Lib.hid hw
              have G4 : Hid (Below wr.heap.size wr y4) := Lib.hid (G3.out.trans (hf.below G3.out.size (by rintro i hi (e | e) <;> omega)))
              clear hw hf S3 W3 G3
              try clear a0 b1
              have a0 : y4.cell? ⟨hb, 0, none⟩ = some (.pointer (some ⟨fh, 0, none⟩)) := (G4.out.cell (p := ⟨hb, 0, none⟩) hbl).trans A0.out
              have b1 : y4.cell? ⟨fh, 6, none⟩ = some (.int .u16 h.method) := (G4.out.cell (p := ⟨fh, 6, none⟩) fhl).trans (BF.out.cell 6)
              have S4 := Lib.hid (W4.out.u16i VG.out h.method (by omega) (by omega) (by simp))
              go_wp2_with fail
              refine S4.out.mono ?_
              rintro e y5 ⟨rfl, hw, hf⟩
              have W5 := Lib.hid hw
              have G5 : Hid (Below wr.heap.size wr y5) := Lib.hid (G4.out.trans (hf.below G4.out.size (by rintro i hi (e | e) <;> omega)))
              clear hw hf S4 W4 G4
              try clear a0 b1
              have a0 : y5.cell? ⟨hb, 0, none⟩ = some (.pointer (some ⟨fh, 0, none⟩)) := (G5.out.cell (p := ⟨hb, 0, none⟩) hbl).trans A0.out
              have b1 : y5.cell? ⟨fh, 10, none⟩ = some (.int .u16 h.time) := (G5.out.cell (p := ⟨fh, 10, none⟩) fhl).trans (BF.out.cell 10)
              have S5 := Lib.hid (W5.out.u16i VG.out h.time (by omega) (by omega) (by simp))
              go_wp2_with fail
              refine S5.out.mono ?_
              rintro e y6 ⟨rfl, hw, hf⟩
              have W6 := Lib.hid hw
              have G6 : Hid (Below wr.heap.size wr y6) := Lib.hid (G5.out.trans (hf.below G5.out.size (by rintro i hi (e | e) <;> omega)))
              clear hw hf S5 W5 G5
              try clear a0 b1
              have a0 : y6.cell? ⟨hb, 0, none⟩ = some (.pointer (some ⟨fh, 0, none⟩)) := (G6.out.cell (p := ⟨hb, 0, none⟩) hbl).trans A0.out
              have b1 : y6.cell? ⟨fh, 11, none⟩ = some (.int .u16 h.date) := (G6.out.cell (p := ⟨fh, 11, none⟩) fhl).trans (BF.out.cell 11)
              have S6 := Lib.hid (W6.out.u16i VG.out h.date (by omega) (by omega) (by simp))
              go_wp2_with fail
              refine S6.out.mono ?_
              rintro e y7 ⟨rfl, hw, hf⟩
              have W7 := Lib.hid hw
              have G7 : Hid (Below wr.heap.size wr y7) := Lib.hid (G6.out.trans (hf.below G6.out.size (by rintro i hi (e | e) <;> omega)))
              clear hw hf S6 W6 G6
              try clear a0 b1
              have a0 : y7.cell? ⟨hb, 0, none⟩ = some (.pointer (some ⟨fh, 0, none⟩)) := (G7.out.cell (p := ⟨hb, 0, none⟩) hbl).trans A0.out
              have b1 : y7.cell? ⟨fh, 12, none⟩ = some (.int .u32 h.crc) := (G7.out.cell (p := ⟨fh, 12, none⟩) fhl).trans (BF.out.cell 12)
              have S7 := Lib.hid (W7.out.u32i VG.out h.crc (by omega) (by omega) (by simp))
              go_wp2_with fail
              refine S7.out.mono ?_
              rintro e y8 ⟨rfl, hw, hf⟩
              have W8 := Lib.hid hw
              have G8 : Hid (Below wr.heap.size wr y8) := Lib.hid (G7.out.trans (hf.below G7.out.size (by rintro i hi (e | e) <;> omega)))
              clear hw hf S7 W7 G7
              try clear a0 b1
              have a0 : y8.cell? ⟨hb, 0, none⟩ = some (.pointer (some ⟨fh, 0, none⟩)) := (G8.out.cell (p := ⟨hb, 0, none⟩) hbl).trans A0.out
              have b1 : y8.cell? ⟨fh, 15, none⟩ = some (.int .u64 h.packed) := (G8.out.cell (p := ⟨fh, 15, none⟩) fhl).trans (BF.out.cell 15)
              have S8 := Lib.hid (W8.out.u32i VG.out h.packed (by omega) (by omega) (by simp))
              go_wp2_with fail
              refine S8.out.mono ?_
              rintro e y9 ⟨rfl, hw, hf⟩
              have W9 := Lib.hid hw
              have G9 : Hid (Below wr.heap.size wr y9) := Lib.hid (G8.out.trans (hf.below G8.out.size (by rintro i hi (e | e) <;> omega)))
              clear hw hf S8 W8 G8
              try clear a0 b1
              have a0 : y9.cell? ⟨hb, 0, none⟩ = some (.pointer (some ⟨fh, 0, none⟩)) := (G9.out.cell (p := ⟨hb, 0, none⟩) hbl).trans A0.out
              have b1 : y9.cell? ⟨fh, 16, none⟩ = some (.int .u64 h.size) := (G9.out.cell (p := ⟨fh, 16, none⟩) fhl).trans (BF.out.cell 16)
              have S9 := Lib.hid (W9.out.u32i VG.out h.size (by omega) (by omega) (by simp))
              go_wp2_with fail
              refine S9.out.mono ?_
              rintro e y10 ⟨rfl, hw, hf⟩
              have W10 := Lib.hid hw
              have G10 : Hid (Below wr.heap.size wr y10) := Lib.hid (G9.out.trans (hf.below G9.out.size (by rintro i hi (e | e) <;> omega)))
              clear hw hf S9 W9 G9
              try clear a0 b1
              have a0 : y10.cell? ⟨hb, 0, none⟩ = some (.pointer (some ⟨fh, 0, none⟩)) := (G10.out.cell (p := ⟨hb, 0, none⟩) hbl).trans A0.out
              have b1 : y10.cell? ⟨fh, 0, none⟩ = some (.string (B h.name)) := (G10.out.cell (p := ⟨fh, 0, none⟩) fhl).trans (BF.out.cell 0)
              have S10 := Lib.hid (W10.out.u16i VG.out (h.name.length : Int) (by omega) (by omega) (by simp))
              go_wp2_with fail
              refine S10.out.mono ?_
              rintro e y11 ⟨rfl, hw, hf⟩
              have W11 := Lib.hid hw
              have G11 : Hid (Below wr.heap.size wr y11) := Lib.hid (G10.out.trans (hf.below G10.out.size (by rintro i hi (e | e) <;> omega)))
              clear hw hf S10 W10 G10
              try clear a0 b1
              have a0 : y11.cell? ⟨hb, 0, none⟩ = some (.pointer (some ⟨fh, 0, none⟩)) := (G11.out.cell (p := ⟨hb, 0, none⟩) hbl).trans A0.out
              have b1 : y11.cell? ⟨fh, 17, none⟩ = some (.slice xa h.extra.length xc) := (G11.out.cell (p := ⟨fh, 17, none⟩) fhl).trans (BF.out.cell 17)
              have S11 := Lib.hid (W11.out.u16i VG.out (h.extra.length : Int) (by omega) (by omega) (by simp))
              go_wp2_with fail
              refine S11.out.mono ?_
              rintro e y12 ⟨rfl, hw, hf⟩
              have W12 := Lib.hid hw
              have G12 : Hid (Below wr.heap.size wr y12) := Lib.hid (G11.out.trans (hf.below G11.out.size (by rintro i hi (e | e) <;> omega)))
              clear hw hf S11 W11 G11
              try clear a0 b1
              have a0 : y12.cell? ⟨hb, 0, none⟩ = some (.pointer (some ⟨fh, 0, none⟩)) := (G12.out.cell (p := ⟨hb, 0, none⟩) hbl).trans A0.out
              have b1 : y12.cell? ⟨fh, 1, none⟩ = some (.string (B h.comment)) := (G12.out.cell (p := ⟨fh, 1, none⟩) fhl).trans (BF.out.cell 1)
              have S12 := Lib.hid (W12.out.u16i VG.out (h.comment.length : Int) (by omega) (by omega) (by simp))
              go_wp2_with fail
              refine S12.out.mono ?_
              rintro e y13 ⟨rfl, hw, hf⟩
              have W13 := Lib.hid hw
              have G13 : Hid (Below wr.heap.size wr y13) := Lib.hid (G12.out.trans (hf.below G12.out.size (by rintro i hi (e | e) <;> omega)))
              clear hw hf S12 W12 G12
              try clear a0 b1
              obtain ⟨kk, kf⟩ := W13.out.at 12 34 (by simp) (by simp) (by omega)
              have W14 : Hid (WB (y13.setCell ⟨wr.heap.size + 1, 0, none⟩ (.slice (some ⟨wr.heap.size, 38, none⟩) 8 8)) (wr.heap.size + 1) wr.heap.size 46 (([] ++ leB 4 33639248 ++ leB 2 h.creator ++ leB 2 h.reader ++ leB 2 h.flags ++ leB 2 h.method ++ leB 2 h.time ++ leB 2 h.date ++ leB 4 h.crc ++ leB 4 h.packed ++ leB 4 h.size ++ leB 2 (h.name.length : Int) ++ leB 2 (h.extra.length : Int) ++ leB 2 (h.comment.length : Int)) ++ List.replicate 4 0) 203) := Lib.hid (W13.out.skip VG.out 4 8 (by simp) (by simp))
              have G14 : Hid (Below wr.heap.size wr (y13.setCell ⟨wr.heap.size + 1, 0, none⟩ (.slice (some ⟨wr.heap.size, 38, none⟩) 8 8))) := Lib.hid (G13.out.setCell (by simp) _)
              clear W13 G13
              try clear a0 b1
              go_upto_region 51 with fail
              generalize (y13.setCell ⟨wr.heap.size + 1, 0, none⟩ (.slice (some ⟨wr.heap.size, 38, none⟩) 8 8)) = y14 at W14 G14 ⊢
              clear kk kf
              have a0 : y14.cell? ⟨hb, 0, none⟩ = some (.pointer (some ⟨fh, 0, none⟩)) := (G14.out.cell (p := ⟨hb, 0, none⟩) hbl).trans A0.out
              have b1 : y14.cell? ⟨fh, 18, none⟩ = some (.int .u32 h.ext) := (G14.out.cell (p := ⟨fh, 18, none⟩) fhl).trans (BF.out.cell 18)
              have S14 := Lib.hid (W14.out.u32i VG.out h.ext (by omega) (by omega) (by simp))
              go_wp2_with fail
              refine S14.out.mono ?_
              rintro e y15 ⟨rfl, hw, hf⟩
              have W15 := Lib.hid hw
              have G15 : Hid (Below wr.heap.size wr y15) := Lib.hid (G14.out.trans (hf.below G14.out.size (by rintro i hi (e | e) <;> omega)))
              clear hw hf S14 W14 G14
              try clear a0 b1
              have b1 : y15.cell? ⟨hb, 1, none⟩ = some (.int .u64 off) := (G15.out.cell (p := ⟨hb, 1, none⟩) hbl).trans A1.out
              have S15 := Lib.hid (W15.out.u32i VG.out (off : Int) (by omega) (by omega) (by simp))
              go_upto_region 52 with fail
              refine wp_cut (FcA z L.length hb (some ⟨g, 0, none⟩) es.length vcap i 13 (.pointer (some ⟨wr.heap.size, 0, none⟩)) (fun y => Hid (WB y (wr.heap.size + 1) wr.heap.size 46 ([] ++ leB 4 33639248 ++ leB 2 h.creator ++ leB 2 h.reader ++ leB 2 h.flags ++ leB 2 h.method ++ leB 2 h.time ++ leB 2 h.date ++ leB 4 h.crc ++ leB 4 h.packed ++ leB 4 h.size ++ leB 2 (h.name.length : Int) ++ leB 2 (h.extra.length : Int) ++ leB 2 (h.comment.length : Int) ++ List.replicate 4 0 ++ leB 4 h.ext ++ leB 4 (off : Int)) 203 ∧ Below wr.heap.size wr y))) ?restA ?firstA
              case firstA =>
                intro J3 K3 hJ3 hK3
                as_aux_lemma =>
                  go_wp2_with fail
                  refine S15.out.mono ?_
                  rintro e y16 ⟨rfl, hw, hf⟩
                  have W16 := Lib.hid hw
                  have G16 : Hid (Below wr.heap.size wr y16) := Lib.hid (G15.out.trans (hf.below G15.out.size (by rintro i hi (e | e) <;> omega)))
                  clear hw hf S15 W15 G15
                  go_wp2_with fail
                  all_goals refine Met.intro (hJ3 _ _ ?_)
                  all_goals exact ⟨rfl, rfl, rfl, rfl, rfl, rfl, rfl, rfl, rfl, rfl, rfl, Lib.hid ⟨W16.out, G16.out⟩⟩
              clear W15 G15 S15 b1 rn rx rc m1 m2 m3 r1 r2 r3
              intro xp y hR
              obtain ⟨q1, q2, r0, r2, r4, r5, r7, r82, r83, r84, rk, hWG⟩ := hR
              obtain ⟨p, rfl, hu⟩ := frame520 xp q1 q2
              have u0 := (hu 0 (by decide)).trans r0
              have u2 := (hu 2 (by decide)).trans r2
              have u4 := (hu 4 (by decide)).trans r4
              have u5 := (hu 5 (by decide)).trans r5
              have u7 := (hu 7 (by decide)).trans r7
              have u82 := (hu 82 (by decide)).trans r82
              have u83 := (hu 83 (by decide)).trans r83
              have u84 := (hu 84 (by decide)).trans r84
              have uk := (hu 13 (by decide)).trans rk
              clear hu q1 q2 r0 r2 r4 r5 r7 r82 r83 r84 rk
              rw [u0, u2, u4, u5, u7, u82, u83, u84, uk]
              clear u0 u2 u4 u5 u7 u82 u83 u84 uk
              obtain ⟨P, hP⟩ : ∃ P, P = ([] ++ leB 4 33639248 ++ leB 2 h.creator ++ leB 2 h.reader ++ leB 2 h.flags ++ leB 2 h.method ++ leB 2 h.time ++ leB 2 h.date ++ leB 4 h.crc ++ leB 4 h.packed ++ leB 4 h.size ++ leB 2 (h.name.length : Int) ++ leB 2 (h.extra.length : Int) ++ leB 2 (h.comment.length : Int) ++ List.replicate 4 0 ++ leB 4 h.ext ++ leB 4 (off : Int)) := ⟨_, rfl⟩
              rw [← hP] at hWG
              have hPl : P.length = 46 := by rw [hP]; simp
              have HCEN : Hid (centralL h off = P ++ h.name ++ h.extra ++ h.comment) := Lib.hid (by
                rw [hP, show leB 4 33639248 = [80, 75, 1, 2] by decide +kernel]
                simp [centralL, fieldsL, leB_zero4, List.append_assoc])
              have G := Lib.hid hWG.out.2
              have W := hWG.out.1
              have hsz := G.out.size
              have hg11 := W.buf.lt
              have FRY : Hid (Fr (fun _ => False) wr y) := Lib.hid (Fr.of_below G.out)
              have HC1 := Lib.hid (cwWrite_still O hO (.slice (some ⟨wr.heap.size, 0, none⟩) 46 46) LL P ob1 y (HSZ.out.out.fr FRY.out (fun _ _ => id)) (.inr ⟨wr.heap.size, 0, 46, by rw [hPl], hg11, by omega, W.full hPl⟩) (by
                intro d hd
                have hd2 : wr.heap.size = d := Option.some.inj hd
                subst hd2
                intro e
                exact Nat.lt_irrefl _ (HSZ.out.out.ltn _ e)) (by have := HLL.out.2; omega) (by omega) 46 hPl)
              have HPL := Lib.hid hPl
              have k0 : y.cell? ⟨z, 0, none⟩ = some (.pointer (some ⟨O.cw, 0, none⟩)) := (G.out.cell (p := ⟨z, 0, none⟩) hzl).trans KZ.out
              clear hP hPl W hWG hg11
              go_upto_region 53 with fail
              refine wp_cut (FcA z L.length hb (some ⟨g, 0, none⟩) es.length vcap i 16 (.nilIface) (fun wx => ∃ ob2, Hid (OutC wx O (LL ++ P) ob2 ∧ obNext ob1 ob2 wr.heap.size ∧ Fr (O.all ob1) wr wx))) ?rest1 ?first1
              case first1 =>
                intro J3 K3 hJ3 hK3
                go_region_with (go_at_call 95; refine (HC1.out _ ?hh).mono ?_; (case hh => exact (Fr.refl _ _).drew); rintro e wn ⟨rfl, ob2, h12⟩)
                all_goals refine hK3 _ _ (Met.intro (hJ3 _ _ ?_))
                all_goals go_simp
                all_goals
                  have hq : OutC wn O (LL ++ P) ob2 ∧ obNext ob1 ob2 wr.heap.size ∧ Fr (O.all ob1) wr wn := ⟨h12.out.1, h12.out.2.1.imp id (fun ⟨q, e, h⟩ => ⟨q, e, Nat.le_trans G.out.size h⟩), FRY.out.trans2 h12.out.2.2 (fun _ h => h.elim) (fun _ h => h)⟩
                  exact ⟨rfl, rfl, rfl, rfl, rfl, rfl, rfl, rfl, rfl, rfl, rfl, ob2, Lib.hid hq⟩
              clear HC1 k0 G FRY hsz
              intro xsb yb hR
              obtain ⟨q1, q2, r0, r2, r4, r5, r7, r82, r83, r84, rk, obb, hb⟩ := hR
              obtain ⟨sb, rfl, hu⟩ := frame520 xsb q1 q2
              have u0 := (hu 0 (by decide)).trans r0
              have u2 := (hu 2 (by decide)).trans r2
              have u4 := (hu 4 (by decide)).trans r4
              have u5 := (hu 5 (by decide)).trans r5
              have u7 := (hu 7 (by decide)).trans r7
              have u82 := (hu 82 (by decide)).trans r82
              have u83 := (hu 83 (by decide)).trans r83
              have u84 := (hu 84 (by decide)).trans r84
              have uk := (hu 16 (by decide)).trans rk
              clear hu q1 q2 r0 r2 r4 r5 r7 r82 r83 r84 rk
              rw [u0, u2, u4, u5, u7, u82, u83, u84, uk]
              clear u0 u2 u4 u5 u7 u82 u83 u84 uk
              have OC := Lib.hid hb.out.1
              have ON := Lib.hid hb.out.2.1
              have FR := Lib.hid hb.out.2.2
              clear hb
              have k0 : yb.cell? ⟨z, 0, none⟩ = some (.pointer (some ⟨O.cw, 0, none⟩)) := (FR.out.cell hzl HSZ.out.z1.1).trans KZ.out
              have a0 : yb.cell? ⟨hb, 0, none⟩ = some (.pointer (some ⟨fh, 0, none⟩)) := (FR.out.cell hbl HH.out.s1).trans A0.out
              have b1 : yb.cell? ⟨fh, 0, none⟩ = some (.string (B h.name)) := (FR.out.cell fhl HH.out.s2).trans (BF.out.cell 0)
              have hcv := fun w => run_bytes h.name w
              have kb : (bytesW h.name yb.drew).cell? ⟨z, 0, none⟩ = some (.pointer (some ⟨O.cw, 0, none⟩)) := ((bytesW_below h.name yb.drew).cell (p := ⟨z, 0, none⟩) (Nat.lt_of_lt_of_le hzl FR.out.size)).trans k0
              go_upto_region 56 with fail
              have HC := Lib.hid (cwBytes_any O hO (LL ++ P) h.name obb yb OC.out (by have := HLL.out.2; simp only [List.length_append, HPL.out]; omega) (Nat.le_trans hbase FR.out.size) yb.drew (Fr.refl _ _).drew)
              refine wp_cut (FcA z L.length hb (some ⟨g, 0, none⟩) es.length vcap i 18 (.nilIface) (fun wx => ∃ ob2, Hid (OutC wx O (LL ++ P ++ h.name) ob2 ∧ obNext ob1 ob2 wr.heap.size ∧ Fr (O.all ob1) wr wx))) ?rest2 ?first2
              case first2 =>
                intro J3 K3 hJ3 hK3
                go_region_with (go_at_call 95; refine HC.out.mono ?_; rintro e wn ⟨rfl, ob2, h12⟩)
                all_goals refine hK3 _ _ (Met.intro (hJ3 _ _ ?_))
                all_goals go_simp
                all_goals
                  have hq := And.intro h12.out.1 (And.intro (ON.out.trans h12.out.2.1 FR.out.size) (FR.out.alls h12.out.2.2 ON.out))
                  simp only [List.append_assoc] at hq
                  exact ⟨rfl, rfl, rfl, rfl, rfl, rfl, rfl, rfl, rfl, rfl, rfl, ob2, Lib.hid hq⟩
              clear HC hcv kb k0 a0 b1 OC ON FR
              intro xsc yc hR
              obtain ⟨q1, q2, r0, r2, r4, r5, r7, r82, r83, r84, rk, obc, hc⟩ := hR
              obtain ⟨sc, rfl, hu⟩ := frame520 xsc q1 q2
              have u0 := (hu 0 (by decide)).trans r0
              have u2 := (hu 2 (by decide)).trans r2
              have u4 := (hu 4 (by decide)).trans r4
              have u5 := (hu 5 (by decide)).trans r5
              have u7 := (hu 7 (by decide)).trans r7
              have u82 := (hu 82 (by decide)).trans r82
              have u83 := (hu 83 (by decide)).trans r83
              have u84 := (hu 84 (by decide)).trans r84
              have uk := (hu 18 (by decide)).trans rk
              clear hu q1 q2 r0 r2 r4 r5 r7 r82 r83 r84 rk
              rw [u0, u2, u4, u5, u7, u82, u83, u84, uk]
              clear u0 u2 u4 u5 u7 u82 u83 u84 uk
              have OC := Lib.hid hc.out.1
              have ON := Lib.hid hc.out.2.1
              have FR := Lib.hid hc.out.2.2
              clear hc
              have k0 : yc.cell? ⟨z, 0, none⟩ = some (.pointer (some ⟨O.cw, 0, none⟩)) := (FR.out.cell hzl HSZ.out.z1.1).trans KZ.out
              have a0 : yc.cell? ⟨hb, 0, none⟩ = some (.pointer (some ⟨fh, 0, none⟩)) := (FR.out.cell hbl HH.out.s1).trans A0.out
              have b1 : yc.cell? ⟨fh, 17, none⟩ = some (.slice xa h.extra.length xc) := (FR.out.cell fhl HH.out.s2).trans (BF.out.cell 17)
              have HX := HH.out.bx.fr FR.out HH.out.s3
              have HC := Lib.hid (cwWrite_still O hO _ (LL ++ P ++ h.name) h.extra obc yc OC.out HX (fun d hd => Wr.all_next ON.out (xl d hd) (HH.out.s3 d hd)) (by have := HLL.out.2; simp only [List.length_append, HPL.out]; omega) (Nat.le_trans hbase FR.out.size) _ rfl)
              have hxf : xa = none ∨ ∃ d o, xa = some ⟨d, o, none⟩ := by
                rcases HH.out.bx with ⟨e, _⟩ | ⟨d, o, cap, e, _⟩
                · simp only [Value.slice.injEq] at e
                  exact .inl e.1
                · simp only [Value.slice.injEq] at e
                  exact .inr ⟨d, o, e.1⟩
              clear HX
              go_upto_region 59 with fail
              refine wp_cut (FcA z L.length hb (some ⟨g, 0, none⟩) es.length vcap i 20 (.nilIface) (fun wx => ∃ ob2, Hid (OutC wx O (LL ++ P ++ h.name ++ h.extra) ob2 ∧ obNext ob1 ob2 wr.heap.size ∧ Fr (O.all ob1) wr wx))) ?rest3w ?first3w
              case first3w =>
                intro J3 K3 hJ3 hK3
                rcases hxf with rfl | ⟨xd, xo, rfl⟩
                · go_region_with (go_at_call 95; refine (HC.out _ ?hh).mono ?_; (case hh => exact (Fr.refl _ _).drew); rintro e wn ⟨rfl, ob2, h12⟩)
                  all_goals refine hK3 _ _ (Met.intro (hJ3 _ _ ?_))
                  all_goals go_simp
                  all_goals
                    have hq := And.intro h12.out.1 (And.intro (ON.out.trans h12.out.2.1 FR.out.size) (FR.out.alls h12.out.2.2 ON.out))
                    simp only [List.append_assoc] at hq
                    exact ⟨rfl, rfl, rfl, rfl, rfl, rfl, rfl, rfl, rfl, rfl, rfl, ob2, Lib.hid hq⟩
                · go_region_with (go_at_call 95; refine (HC.out _ ?hh).mono ?_; (case hh => exact (Fr.refl _ _).drew); rintro e wn ⟨rfl, ob2, h12⟩)
                  all_goals refine hK3 _ _ (Met.intro (hJ3 _ _ ?_))
                  all_goals go_simp
                  all_goals
                    have hq := And.intro h12.out.1 (And.intro (ON.out.trans h12.out.2.1 FR.out.size) (FR.out.alls h12.out.2.2 ON.out))
                    simp only [List.append_assoc] at hq
                    exact ⟨rfl, rfl, rfl, rfl, rfl, rfl, rfl, rfl, rfl, rfl, rfl, ob2, Lib.hid hq⟩
              clear HC hxf k0 a0 b1 OC ON FR
              intro xsd yd hR
              obtain ⟨q1, q2, r0, r2, r4, r5, r7, r82, r83, r84, rk, obd, hd⟩ := hR
              obtain ⟨sd, rfl, hu⟩ := frame520 xsd q1 q2
              have u0 := (hu 0 (by decide)).trans r0
              have u2 := (hu 2 (by decide)).trans r2
              have u4 := (hu 4 (by decide)).trans r4
              have u5 := (hu 5 (by decide)).trans r5
              have u7 := (hu 7 (by decide)).trans r7
              have u82 := (hu 82 (by decide)).trans r82
              have u83 := (hu 83 (by decide)).trans r83
              have u84 := (hu 84 (by decide)).trans r84
              have uk := (hu 20 (by decide)).trans rk
              clear hu q1 q2 r0 r2 r4 r5 r7 r82 r83 r84 rk
              rw [u0, u2, u4, u5, u7, u82, u83, u84, uk]
              clear u0 u2 u4 u5 u7 u82 u83 u84 uk
              have OC := Lib.hid hd.out.1
              have ON := Lib.hid hd.out.2.1
              have FR := Lib.hid hd.out.2.2
              clear hd
              have k0 : yd.cell? ⟨z, 0, none⟩ = some (.pointer (some ⟨O.cw, 0, none⟩)) := (FR.out.cell hzl HSZ.out.z1.1).trans KZ.out
              have a0 : yd.cell? ⟨hb, 0, none⟩ = some (.pointer (some ⟨fh, 0, none⟩)) := (FR.out.cell hbl HH.out.s1).trans A0.out
              have b1 : yd.cell? ⟨fh, 1, none⟩ = some (.string (B h.comment)) := (FR.out.cell fhl HH.out.s2).trans (BF.out.cell 1)
              have hcv := fun w => run_bytes h.comment w
              have kb : (bytesW h.comment yd.drew).cell? ⟨z, 0, none⟩ = some (.pointer (some ⟨O.cw, 0, none⟩)) := ((bytesW_below h.comment yd.drew).cell (p := ⟨z, 0, none⟩) (Nat.lt_of_lt_of_le hzl FR.out.size)).trans k0
              go_upto_region 62 with fail
              have HC := Lib.hid (cwBytes_any O hO (LL ++ P ++ h.name ++ h.extra) h.comment obd yd OC.out (by have := HLL.out.2; simp only [List.length_append, HPL.out]; omega) (Nat.le_trans hbase FR.out.size) yd.drew (Fr.refl _ _).drew)
              refine wp_cut (FcA z L.length hb (some ⟨g, 0, none⟩) es.length vcap i 22 (.nilIface) (fun wx => ∃ ob2, Hid (OutC wx O (LL ++ P ++ h.name ++ h.extra ++ h.comment) ob2 ∧ obNext ob1 ob2 wr.heap.size ∧ Fr (O.all ob1) wr wx))) ?rest4 ?first4
              case first4 =>
                intro J3 K3 hJ3 hK3
                go_region_with (go_at_call 95; refine HC.out.mono ?_; rintro e wn ⟨rfl, ob2, h12⟩)
                all_goals refine hK3 _ _ (Met.intro (hJ3 _ _ ?_))
                all_goals go_simp
                all_goals
                  have hq := And.intro h12.out.1 (And.intro (ON.out.trans h12.out.2.1 FR.out.size) (FR.out.alls h12.out.2.2 ON.out))
                  simp only [List.append_assoc] at hq
                  exact ⟨rfl, rfl, rfl, rfl, rfl, rfl, rfl, rfl, rfl, rfl, rfl, ob2, Lib.hid hq⟩
              clear HC hcv kb k0 a0 b1 OC ON FR
              intro xse ye hR
              obtain ⟨q1, q2, r0, r2, r4, r5, r7, r82, r83, r84, rk, obe, he⟩ := hR
              obtain ⟨se, rfl, hu⟩ := frame520 xse q1 q2
              have u0 := (hu 0 (by decide)).trans r0
              have u2 := (hu 2 (by decide)).trans r2
              have u4 := (hu 4 (by decide)).trans r4
              have u5 := (hu 5 (by decide)).trans r5
              have u7 := (hu 7 (by decide)).trans r7
              have u82 := (hu 82 (by decide)).trans r82
              have u83 := (hu 83 (by decide)).trans r83
              have u84 := (hu 84 (by decide)).trans r84
              have uk := (hu 22 (by decide)).trans rk
              clear hu q1 q2 r0 r2 r4 r5 r7 r82 r83 r84 rk
              rw [u0, u2, u4, u5, u7, u82, u83, u84, uk]
              clear u0 u2 u4 u5 u7 u82 u83 u84 uk
              have ZE := HSZ.out.wrote he.out.1 he.out.2.1 he.out.2.2
              have FE : Fr T w1 ye := HS.out.2.1.trans he.out.2.2 (fun b hb k => HS.out.2.2 b hb (.inl k))
              have TE : ∀ b, b < w1.heap.size → Zall O obe z db lw' b → T b := fun b hb k => HS.out.2.2 b hb (zall_back he.out.2.1 b (Nat.lt_of_lt_of_le hb HS.out.2.1.size) k)
              have hi1 : es.length - (n - 1) = i + 1 := by have := HN.out; omega
              have ZE2 : ZwK ye O z (L ++ entsL (es.take (es.length - (n - 1)))) obe db lw' es lv' true cm := by
                have e : L ++ entsL (es.take (es.length - (n - 1))) = LL ++ P ++ h.name ++ h.extra ++ h.comment := by
                  rw [hi1, HEN.out, entsL_append, entsL_one, HLL.out.1]
                  show L ++ (entsL (es.take i) ++ centralL h off) = _
                  rw [HCEN.out]
                  simp only [List.append_assoc]
                rw [e]; exact ZE
              have KE : ye.cell? ⟨z, 1, none⟩ = some (.slice (some ⟨g, 0, none⟩) es.length vcap) := (he.out.2.2.cell hzl HSZ.out.z1.1).trans HZ1.out
              have FIN := Lib.hid (And.intro ZE2 (And.intro FE TE))
              have KE2 := Lib.hid KE
              have HI1 := Lib.hid hi1
              have hn1 : n - 1 < n := by have := HN.out; omega
              have hn2 : n - 1 ≤ es.length := by have := HN.out; omega
              have HN1 := Lib.hid (And.intro hn1 hn2)
              clear he ZE FE TE ZE2 KE hi1 hn1 hn2
              go_wp2_with fail
              all_goals refine Handed.intro (n - 1) HN1.out.1 (hJ2 _ _ _ ?_)
              all_goals exact ⟨HN1.out.2, rfl, rfl, rfl, rfl, rfl, rfl, rfl, rfl, by rw [HI1.out]; rfl, KE2.out, obe, FIN⟩
      case rest3 =>
        clear K1 HZ3 F13 A3
        intro x wr hI
        obtain ⟨_, q1, q2, r0, r2, r4, r5, _, _, _, hz1, ob1, hS⟩ := hI
        obtain ⟨u, rfl, hu⟩ := frame520 x q1 q2
        have u0 := (hu 0 (by decide)).trans r0
        have u2 := (hu 2 (by decide)).trans r2
        have u4 := (hu 4 (by decide)).trans r4
        have u5 := (hu 5 (by decide)).trans r5
        clear hu q1 q2 r0 r2 r4 r5
        rw [u0, u2, u4, u5]
        clear u0 u2 u4 u5
        rw [Nat.sub_zero, List.take_length] at hS
        obtain ⟨Q, hQ⟩ : ∃ Q, Q = entsL es := ⟨_, rfl⟩
        rw [← hQ] at hS hlen
        have HQ := Lib.hid hQ
        clear hQ
        rw [List.length_append] at hlen
        have HS := Lib.hid hS.out
        have HLEN := Lib.hid hlen
        have hO := HS.out.1.ok
        have hbase := HS.out.1.base.1
        have hzl : z < wr.heap.size := HS.out.1.lt z (.inr (.inl rfl))
        obtain ⟨k0, k5, k6⟩ : wr.cell? ⟨z, 0, none⟩ = some (.pointer (some ⟨O.cw, 0, none⟩)) ∧ wr.cell? ⟨z, 5, none⟩ = some (.string (B cm)) ∧ wr.cell? ⟨z, 6, none⟩ = some .nilFunc := by
          obtain ⟨dv, hzb, _⟩ := HS.out.1.zb
          exact ⟨hzb.cell 0, hzb.cell 5, hzb.cell 6⟩
        have KZ := Lib.hid k0
        have K5 := Lib.hid k5
        have k7 : wr.cell? ⟨O.cw, 1, none⟩ = some (.int .i64 (L ++ Q).length) := HS.out.1.out.cw.cell 1
        have KB : Hid (wr.cell? ⟨O.cw, 0, none⟩ = some (bwv O)) := Lib.hid (HS.out.1.out.cw.cell 0)
        have hll : ((L ++ Q).length : Int) = (L.length : Int) + (Q.length : Int) := by simp
        rw [hll] at k7
        have e1 : IntKind.u64.wrap (es.length : Int) = es.length := by rw [IntKind.wrap_u64]; omega
        have e2 : (L.length : Int) + (Q.length : Int) - (L.length : Int) = (Q.length : Int) := by omega
        have e2b : IntKind.i64.wrap (Q.length : Int) = Q.length := by rw [IntKind.wrap_i64]; omega
        have e3 : IntKind.u64.wrap (Q.length : Int) = Q.length := by rw [IntKind.wrap_u64]; omega
        have e4 : IntKind.u64.wrap (L.length : Int) = L.length := by rw [IntKind.wrap_u64]; omega
        have q3 : ¬ ((65535 : Int) ≤ (es.length : Int)) := by omega
        have q4 : ¬ ((4294967295 : Int) ≤ (Q.length : Int)) := by omega
        have q5 : ¬ ((4294967295 : Int) ≤ (L.length : Int)) := by omega
        have hnf := nilf_neqC
        clear hS hlen hll
        go_upto_region 93 with fail
        have W0 : Hid (WB ((wr.alloc (.cells (zeroA 22) 205)).alloc (.cells #[.slice (some ⟨wr.heap.size, 0, none⟩) 22 22] 147)) (wr.heap.size + 1) wr.heap.size 22 [] 205) := Lib.hid ⟨⟨_, Blk.new' _ _ (by simp), fun _ => rfl⟩, by rw [put_nil]; exact (Blk.new _ _ _).alloc _, by simp⟩
        have G0 : Hid (Below wr.heap.size wr ((wr.alloc (.cells (zeroA 22) 205)).alloc (.cells #[.slice (some ⟨wr.heap.size, 0, none⟩) 22 22] 147))) := Lib.hid (((Below.refl wr.heap.size wr).alloc (Nat.le_refl _) _).alloc (by simp) _)
        have hvg : wr.heap.size + 1 ≠ wr.heap.size := by omega
        have VG := Lib.hid hvg
        go_wp2_with (refine wpList_alloc_zero rfl 205 rfl 22 (by kernel_rfl) ?_)
        have m1 : min (65535 : Int) (es.length : Int) = es.length := by omega
        have m2 : min (4294967295 : Int) (Q.length : Int) = Q.length := by omega
        have m3 : min (4294967295 : Int) (L.length : Int) = L.length := by omega
        have r1 : IntKind.u16.wrap (es.length : Int) = es.length := by rw [IntKind.wrap_u16]; omega
        have r2 : IntKind.u32.wrap (Q.length : Int) = Q.length := by rw [IntKind.wrap_u32]; omega
        have r3 : IntKind.u32.wrap (L.length : Int) = L.length := by rw [IntKind.wrap_u32]; omega
        have r4 : IntKind.u16.wrap (cm.length : Int) = cm.length := by rw [IntKind.wrap_u16]; omega
        clear hvg hnf k0 k5 k6 k7 e1 e2 e2b e3 e4 q3 q4 q5
        have S0 := Lib.hid (W0.out.u32i VG.out 101010256 (by omega) (by omega) (by simp))
        go_wp2_with fail
        refine S0.out.mono ?_
        rintro e y1 ⟨rfl, hw, hf⟩
        have W1 := Lib.hid hw
        have G1 : Hid (Below wr.heap.size wr y1) := Lib.hid (G0.out.trans (hf.below G0.out.size (by rintro i hi (e | e) <;> omega)))
        clear hw hf S0 W0 G0
        try clear a0 b1
        obtain ⟨kk, kf⟩ := W1.out.at 18 4 (by simp) (by simp) (by omega)
        have W2 : Hid (WB (y1.setCell ⟨wr.heap.size + 1, 0, none⟩ (.slice (some ⟨wr.heap.size, 8, none⟩) 14 14)) (wr.heap.size + 1) wr.heap.size 22 (([] ++ leB 4 101010256) ++ List.replicate 4 0) 205) := Lib.hid (W1.out.skip VG.out 4 14 (by simp) (by simp))
        have G2 : Hid (Below wr.heap.size wr (y1.setCell ⟨wr.heap.size + 1, 0, none⟩ (.slice (some ⟨wr.heap.size, 8, none⟩) 14 14))) := Lib.hid (G1.out.setCell (by simp) _)
        clear W1 G1
        try clear a0 b1
        go_upto_region 97 with fail
        generalize (y1.setCell ⟨wr.heap.size + 1, 0, none⟩ (.slice (some ⟨wr.heap.size, 8, none⟩) 14 14)) = y2 at W2 G2 ⊢
        clear kk kf
        have S2 := Lib.hid (W2.out.u16i VG.out (es.length : Int) (by omega) (by omega) (by simp))
        go_wp2_with fail
        refine S2.out.mono ?_
        rintro e y3 ⟨rfl, hw, hf⟩
        have W3 := Lib.hid hw
        have G3 : Hid (Below wr.heap.size wr y3) := Lib.hid (G2.out.trans (hf.below G2.out.size (by rintro i hi (e | e) <;> omega)))
        clear hw hf S2 W2 G2
        try clear a0 b1
        have S3 := Lib.hid (W3.out.u16i VG.out (es.length : Int) (by omega) (by omega) (by simp))
        go_wp2_with fail
        refine S3.out.mono ?_
        rintro e y4 ⟨rfl, hw, hf⟩
        have W4 := Lib.hid hw
        have G4 : Hid (Below wr.heap.size wr y4) := Lib.hid (G3.out.trans (hf.below G3.out.size (by rintro i hi (e | e) <;> omega)))
        clear hw hf S3 W3 G3
        try clear a0 b1
        have S4 := Lib.hid (W4.out.u32i VG.out (Q.length : Int) (by omega) (by omega) (by simp))
        go_wp2_with fail
        refine S4.out.mono ?_
        rintro e y5 ⟨rfl, hw, hf⟩
        have W5 := Lib.hid hw
        have G5 : Hid (Below wr.heap.size wr y5) := Lib.hid (G4.out.trans (hf.below G4.out.size (by rintro i hi (e | e) <;> omega)))
        clear hw hf S4 W4 G4
        try clear a0 b1
        have S5 := Lib.hid (W5.out.u32i VG.out (L.length : Int) (by omega) (by omega) (by simp))
        go_wp2_with fail
        refine S5.out.mono ?_
        rintro e y6 ⟨rfl, hw, hf⟩
        have W6 := Lib.hid hw
        have G6 : Hid (Below wr.heap.size wr y6) := Lib.hid (G5.out.trans (hf.below G5.out.size (by rintro i hi (e | e) <;> omega)))
        clear hw hf S5 W5 G5
        try clear a0 b1
        have b1 : y6.cell? ⟨z, 5, none⟩ = some (.string (B cm)) := (G6.out.cell (p := ⟨z, 5, none⟩) hzl).trans K5.out
        have S6 := Lib.hid (W6.out.u16i VG.out (cm.length : Int) (by omega) (by omega) (by simp))
        go_wp2_with fail
        refine S6.out.mono ?_
        rintro e y7 ⟨rfl, hw, hf⟩
        have W7 := Lib.hid hw
        have G7 : Hid (Below wr.heap.size wr y7) := Lib.hid (G6.out.trans (hf.below G6.out.size (by rintro i hi (e | e) <;> omega)))
        clear hw hf S6 W6 G6
        try clear a0 b1
        clear m1 m2 m3 r1 r2 r3 r4
        have W := W7.out
        obtain ⟨P, hP⟩ : ∃ P, P = ([] ++ leB 4 101010256 ++ List.replicate 4 0 ++ leB 2 (es.length : Int) ++ leB 2 (es.length : Int) ++ leB 4 (Q.length : Int) ++ leB 4 (L.length : Int) ++ leB 2 (cm.length : Int)) := ⟨_, rfl⟩
        rw [← hP] at W
        have hPl : P.length = 22 := by rw [hP]; simp
        have HEND : Hid (endL es.length Q.length L.length cm = P ++ cm) := Lib.hid (by
          rw [hP, show leB 4 101010256 = [80, 75, 5, 6] by decide +kernel]
          simp [endL, leB_zero4, List.append_assoc])
        have G := Lib.hid G7.out
        have hsz := G.out.size
        have hg11 := W.buf.lt
        have FRY : Hid (Fr (fun _ => False) wr y7) := Lib.hid (Fr.of_below G.out)
        have HC1 := Lib.hid (cwWrite_still O hO (.slice (some ⟨wr.heap.size, 0, none⟩) 22 22) (L ++ Q) P ob1 y7 (HS.out.1.out.fr FRY.out (fun _ _ => id)) (.inr ⟨wr.heap.size, 0, 22, by rw [hPl], hg11, by omega, W.full hPl⟩) (by
          intro d hd
          have hd2 : wr.heap.size = d := Option.some.inj hd
          subst hd2
          intro e
          exact Nat.lt_irrefl _ (HS.out.1.out.ltn _ e)) (by have := HLEN.out; rw [List.length_append]; omega) (by omega) 22 hPl)
        have HPL := Lib.hid hPl
        have k0 : y7.cell? ⟨z, 0, none⟩ = some (.pointer (some ⟨O.cw, 0, none⟩)) := (G.out.cell (p := ⟨z, 0, none⟩) hzl).trans KZ.out
        clear hP hPl W W7 G7 hg11
        go_upto_region 102 with fail
        refine wp_cut (FcE z 35 .nilIface (fun wx => ∃ ob2, Hid (OutC wx O (L ++ Q ++ P) ob2 ∧ obNext ob1 ob2 wr.heap.size ∧ Fr (O.all ob1) wr wx))) ?restF ?firstF
        case firstF =>
          intro J3 K3 hJ3 hK3
          go_region_with (go_at_call 95; refine (HC1.out _ ?hh).mono ?_; (case hh => exact (Fr.refl _ _).drew); rintro e wn ⟨rfl, ob2, h12⟩)
          all_goals refine hK3 _ _ (Met.intro (hJ3 _ _ ?_))
          all_goals go_simp
          all_goals
            have hq : OutC wn O (L ++ Q ++ P) ob2 ∧ obNext ob1 ob2 wr.heap.size ∧ Fr (O.all ob1) wr wn := ⟨h12.out.1, h12.out.2.1.imp id (fun ⟨q, e, h⟩ => ⟨q, e, Nat.le_trans G.out.size h⟩), FRY.out.trans2 h12.out.2.2 (fun _ h => h.elim) (fun _ h => h)⟩
            simp only [List.append_assoc] at hq
            exact ⟨rfl, rfl, rfl, rfl, rfl, ob2, Lib.hid hq⟩
        clear HC1 k0 G FRY hsz
        intro xf yf hR
        obtain ⟨q1, q2, r0, r2, rk, obf, hf⟩ := hR
        obtain ⟨sf, rfl, hu⟩ := frame520 xf q1 q2
        have u0 := (hu 0 (by decide)).trans r0
        have u2 := (hu 2 (by decide)).trans r2
        have uk := (hu 35 (by decide)).trans rk
        clear hu q1 q2 r0 r2 rk
        rw [u0, u2, uk]
        clear u0 u2 uk
        have OC := Lib.hid hf.out.1
        have ON := Lib.hid hf.out.2.1
        have FR := Lib.hid hf.out.2.2
        clear hf
        have k0 : yf.cell? ⟨z, 0, none⟩ = some (.pointer (some ⟨O.cw, 0, none⟩)) := (FR.out.cell hzl HS.out.1.z1.1).trans KZ.out
        have k5 : yf.cell? ⟨z, 5, none⟩ = some (.string (B cm)) := (FR.out.cell hzl HS.out.1.z1.1).trans K5.out
        have hcv := fun w => run_bytes cm w
        have kb : (bytesW cm yf.drew).cell? ⟨z, 0, none⟩ = some (.pointer (some ⟨O.cw, 0, none⟩)) := ((bytesW_below cm yf.drew).cell (p := ⟨z, 0, none⟩) (Nat.lt_of_lt_of_le hzl FR.out.size)).trans k0
        go_upto_region 105 with fail
        have HC := Lib.hid (cwBytes_any O hO (L ++ Q ++ P) cm obf yf OC.out (by have := HLEN.out; simp only [List.length_append, HPL.out]; omega) (Nat.le_trans hbase FR.out.size) yf.drew (Fr.refl _ _).drew)
        refine wp_cut (FcE z 37 .nilIface (fun wx => ∃ ob2, Hid (OutC wx O (L ++ Q ++ P ++ cm) ob2 ∧ obNext ob1 ob2 wr.heap.size ∧ Fr (O.all ob1) wr wx))) ?restG ?firstG
        case firstG =>
          intro J3 K3 hJ3 hK3
          go_region_with (go_at_call 95; refine HC.out.mono ?_; rintro e wn ⟨rfl, ob2, h12⟩)
          all_goals refine hK3 _ _ (Met.intro (hJ3 _ _ ?_))
          all_goals go_simp
          all_goals
            have hq := And.intro h12.out.1 (And.intro (ON.out.trans h12.out.2.1 FR.out.size) (FR.out.alls h12.out.2.2 ON.out))
            simp only [List.append_assoc] at hq
            exact ⟨rfl, rfl, rfl, rfl, rfl, ob2, Lib.hid hq⟩
        clear HC hcv kb k0 k5 OC ON FR
        intro xg yg hR
        obtain ⟨q1, q2, r0, r2, rk, obg, hg⟩ := hR
        obtain ⟨sg, rfl, hu⟩ := frame520 xg q1 q2
        have u0 := (hu 0 (by decide)).trans r0
        have u2 := (hu 2 (by decide)).trans r2
        have uk := (hu 37 (by decide)).trans rk
        clear hu q1 q2 r0 r2 rk
        rw [u0, u2, uk]
        clear u0 u2 uk
        have k0 : yg.cell? ⟨z, 0, none⟩ = some (.pointer (some ⟨O.cw, 0, none⟩)) := (hg.out.2.2.cell hzl HS.out.1.z1.1).trans KZ.out
        have k1 : yg.cell? ⟨O.cw, 0, none⟩ = some (bwv O) := hg.out.1.cw.cell 0
        obtain ⟨L1, L2, cur, hLe, hWb⟩ := hg.out.1.out
        have hl12 : L1.length + L2.length ≤ 140737488355328 := by
          have h1 := HLEN.out
          have h2 := congrArg List.length hLe
          simp only [List.length_append, HPL.out] at h2
          omega
        have HFL := Lib.hid (flush_any O hO L1 L2 cur obg yg hWb hl12 (Nat.le_trans hbase hg.out.2.2.size))
        have HLE : Hid (L ++ Q ++ endL es.length Q.length L.length cm = L1 ++ L2) := Lib.hid (by
          rw [HEND.out, ← hLe]
          simp only [List.append_assoc])
        have FG : Hid (Fr T w1 yg) := Lib.hid (HS.out.2.1.trans hg.out.2.2 (fun b hb k => HS.out.2.2 b hb (.inl k)))
        have TG : Hid (∀ b, b < w1.heap.size → O.all obg b → T b) := Lib.hid fun b hb k => HS.out.2.2 b hb (zall_back (db := db) (lw := lw') hg.out.2.1 b (Nat.lt_of_lt_of_le hb HS.out.2.1.size) (.inl k))
        clear hg hLe hWb hl12
        have hta := assert_bwv O
        go_wp2_with fail
        refine HFL.out.mono ?_
        rintro e wz ⟨rfl, obz, curz, hz, _, hfz⟩
        have FIN : Hid (Bld wz O.base O.sb (L ++ entsL es ++ endL es.length (entsL es).length L.length cm) obz ∧ Fr T w1 wz) := Lib.hid ⟨by rw [← HQ.out, HLE.out]; exact hz.bld, FG.out.trans hfz (fun b hb k => TG.out b hb (.inl k))⟩
        clear hz hfz HFL
        go_wp2
        go_ret
        exact ⟨rfl, obz, FIN⟩
/-- Where all entries are bytes as they are. -/
theorem close_any (O : Wr) (z : Nat) (L : List UInt8) (ob db lw : Option Nat) (es : List Ent) (lv : Value) (cm : List UInt8) (w : World) (hZ : ZwC w O z L ob db lw es lv false cm) (hn : es.length ≤ 65534) (hcm : cm.length ≤ 65535) (hlen : (L ++ entsL es).length ≤ 4294967294) (hoff : ∀ e ∈ es, e.off ≤ 4294967294) :
    Calls Tryz.prog 67 #[.pointer (some ⟨z, 0, none⟩)] w fun e w' => e = .returned .nilIface ∧ ∃ ob', Hid (Bld w' O.base O.sb (L ++ entsL es ++ endL es.length (entsL es).length L.length cm) ob' ∧ Fr (Zall O ob z db lw) w w') :=
  closeK_any O z L db lw es lv cm w _ (Zall O ob z db lw) (by obtain ⟨dv, hzb, _⟩ := hZ.zb; exact hzb.cell 2) hZ.lastK
    (fun w1 h1 => ⟨ob, h1.1.toZwK, h1.2.mono (fun b _ e => .inr (.inr (.inr e))), fun _ _ h => h⟩) hn hcm hlen hoff
end Go.Proofs.Zip
