/- A part (3) of the proof of the row of laws.FnFromText: lemmas on RdA, RdB. No condition but what each statement says. -/
import Derived.Test.YtogfnbkccfkpoaaGreatDoorU02
import Derived.Laws.Cover4
set_option linter.unusedSimpArgs false
set_option linter.unusedVariables false
set_option maxRecDepth 100000
namespace Go.Proofs.YtogfnbkccfkpoaaGreatDoor
open Go Go.RowKit
open Eng
theorem R.shl6 {P : Program} {n : Nat} {l : Fr} {w : World} {dst : Option Nat} {ty : TypeId} {pos : String} {af : Array Edge} {g : Option (Nat × Bool)} {x y : Operand} {t u : TypeId} {a0 : Nat} (hx : ev l x = some (.int .i64 (a0 : Int))) (hy : ev l y = some (.int .u64 6)) (h : a0 * 64 < 9223372036854775808) : Runs P n l ⟨dst, .binOp .shl t x y u, ty, pos, af, g⟩ w (.value (.int .i64 ((a0 * 64 : Nat) : Int))) w := fun a ha => by
 have e : IntKind.i64.wrap ((a0 : Int) * 64) = ((a0 * 64 : Nat) : Int) := by
  have := wrap_nat h
  rw [Int.natCast_mul] at this
  exact this
 have eb : min 6 (IntKind.bits .i64) = 6 := by decide
 simp only [execOp, ha.ev hx, ha.ev hy]
 simp [eqGuard, binOp, Op.shift, eb, e]
theorem R.ofRune {P : Program} {n : Nat} {l : Fr} {w : World} {dst : Option Nat} {ty : TypeId} {pos : String} {af : Array Edge} {g : Option (Nat × Bool)} {x : Operand} {src dt e u : TypeId} {b : Nat} {c : Nat} (hx : ev l x = some (.slice (some ⟨b, 0, none⟩) 1 1)) (hs : P.underlying src = some (.slice e)) (he : P.underlying e = some (.int .i32)) (hd : P.underlying dt = some .string) (hb : Blk w b u [.int .i32 (c : Int)]) : Runs P n l ⟨dst, .convert src dt x, ty, pos, af, g⟩ w (.value (str (Sp.utf8 c))) w := fun a ha => by
 have hr := run_convert_runes (P := P) w src dt e ⟨b, 0, none⟩ 1 1 [(c : Int)] (by simp) hs he hd (fun j hj => by
  have hj0 : j = 0 := by simpa using hj
  subst hj0
  exact hb.cell rfl)
 have e1 : runesBytes [(c : Int)] = Utf8.encode (c : Int) := by
  simp [runesBytes]
 have e2 : (Value.string (Utf8.encode (c : Int))) = str (Sp.utf8 c) := by
  simp [str, Sp.utf8, Sp.bytesOf]
 simp only [List.take_one, List.head?_cons, Option.toList_some, e1, e2] at hr
 simp only [execOp, ha.ev hx]
 simp [hr]
def Sp.hexI (c : Nat) : Int := match Sp.hexv c with | some d => (d : Int) | none => -1
theorem hexI_calls (c : Nat) (w0 : World) : CR PR 70 [.int .u8 (c : Int)] w0 fun v w' => v = .int .i64 (Sp.hexI c) ∧ Gr w0 w' none := hexadecimal_calls c w0
theorem Sp.hexI_some {c : Nat} (h : 0 ≤ Sp.hexI c) : ∃ d, Sp.hexv c = some d ∧ Sp.hexI c = (d : Int) ∧ d < 16 := by
 unfold Sp.hexI at h ⊢
 cases e : Sp.hexv c with
 | none => rw [e] at h; exact absurd h dC
 | some d =>
  refine ⟨d, rfl, rfl, ?_⟩
  unfold Sp.hexv at e
  (repeat' split at e) <;> simp at e <;> omega
theorem Sp.hexI_none {c : Nat} (h : ¬ 0 ≤ Sp.hexI c) : Sp.hexv c = none := by
 unfold Sp.hexI at h
 cases e : Sp.hexv c with
 | none => rfl
 | some d => rw [e] at h; exact absurd (Int.natCast_nonneg d) h
theorem Sp.escape_none {s : List UInt8} {p n : Nat} {b u ps : Bool} (hE : Sp.hexGo 6 0 0 ⟨s, p + 1, b, u, ps⟩ = (n, 0, ⟨s, p + 1, b, u, ps⟩)) : Sp.escape ⟨s, p, b, u, ps⟩ = ((s.drop (p + 1)).take (Sp.point s (p + 1)).2, ⟨s, p + 1 + (Sp.point s (p + 1)).2, b, u, ps⟩) := by
 have h1 : Rd.adv ⟨s, p, b, u, ps⟩ 1 = ⟨s, p + 1, b, u, ps⟩ := rfl
 unfold Sp.escape
 simp only [h1, hE]
 rfl
theorem Sp.escape_some {s : List UInt8} {p n many : Nat} {b u ps is : Bool} {r1 r2 r3 : Rd} (hE : Sp.hexGo 6 0 0 ⟨s, p + 1, b, u, ps⟩ = (n, many, r1)) (hm : ¬ many = 0) (ht : Sp.taken r1 [13, 10] = (is, r2)) (h3 : (if is = false ∧ Sp.isSpace (Sp.next r2) = true then r2.adv 1 else r2) = r3) : Sp.escape ⟨s, p, b, u, ps⟩ = if n = 0 ∨ n = 65279 ∨ 1114111 < n ∨ 55296 ≤ n ∧ n < 57344 then ([], r3.unsure) else (Sp.utf8 n, r3) := by
 have h1 : Rd.adv ⟨s, p, b, u, ps⟩ 1 = ⟨s, p + 1, b, u, ps⟩ := rfl
 unfold Sp.escape
 simp only [h1, hE, ht, h3]
 rw [if_neg hm]
theorem Sp.hex_pos {s : List UInt8} {p d : Nat} (h : Sp.hexv (Sp.nx s p) = some d) : p < s.length := by
 apply Sp.nx_pos
 intro e
 rw [e, show Sp.hexv 0 = none from by decide] at h
 cases h
theorem u21 : PR.underlying 21 = some (.int .i32) := by kernel_rfl
theorem u143 : PR.underlying 143 = some (.slice 21) := by kernel_rfl
theorem row143 (v : Value) (h : v.oneCell' = true) : rowOf PR 143 1 [(0, v)] = some (21, [v]) := by
 cases v <;> first | (simp [Value.oneCell'] at h; done) | kernel_rfl
theorem wrap32 {n : Nat} (h : n < 2147483648) : IntKind.i32.wrap (n : Int) = (n : Int) := by
 simp [IntKind.wrap, IntKind.signed, IntKind.bits]; omega
theorem nx_calls (g : Nat) (s : List UInt8) (p0 : Nat) (b0 u0 ps : Bool) (w0 : World) (hr : RD g ⟨s, p0, b0, u0, ps⟩ w0) (hb : s.length ≤ 1000) (hp : p0 ≤ s.length + 1) : CR PR 26 [pP g] w0 fun v w' => v = .int .u8 (Sp.nx s p0 : Int) ∧ Gr w0 w' none := next_calls g ⟨s, p0, b0, u0, ps⟩ w0 hr hb hp
theorem escAt_calls (g : Nat) (s : List UInt8) (p0 : Nat) (b0 u0 ps : Bool) (w0 : World) (hr : RD g ⟨s, p0, b0, u0, ps⟩ w0) (hb : s.length ≤ 1000) (hp : p0 ≤ s.length + 1) (i : Nat) (hi : i ≤ 1002) : CR PR 41 [pP g, .int .i64 (i : Int)] w0 fun v w' => v = .bool (Sp.escAt s i) ∧ Gr w0 w' none := escapeFollows_calls g ⟨s, p0, b0, u0, ps⟩ w0 hr hb hp i hi
theorem hereAt_calls (g : Nat) (s : List UInt8) (p0 : Nat) (b0 u0 ps : Bool) (w0 : World) (hr : RD g ⟨s, p0, b0, u0, ps⟩ w0) (hb : s.length ≤ 1000) (hp : p0 ≤ s.length + 1) (t : List UInt8) (ht : t.length ≤ 100) : CR PR 29 [pP g, str t] w0 fun v w' => v = .bool (Sp.hereAt s p0 t) ∧ Gr w0 w' none := here_calls g ⟨s, p0, b0, u0, ps⟩ w0 hr hb hp t ht
theorem Sp.restGo_name {k p : Nat} {out s : List UInt8} {u ps : Bool} (h : p < s.length) (hb : Sp.nameByte (Sp.nx s p) = true) : Sp.restGo (k + 1) out ⟨s, p, false, u, ps⟩ = Sp.restGo k (out ++ (s.drop p).take 1) ⟨s, p + 1, false, u, ps⟩ := by
 rw [Sp.restGo, if_pos ⟨h, rfl⟩, Sp.next_mk, if_pos hb]; rfl
theorem Sp.restGo_esc {k p : Nat} {out s v : List UInt8} {u ps : Bool} {r' : Rd} (h : p < s.length) (hb : Sp.nameByte (Sp.nx s p) = false) (he : Sp.escAt s p = true) (e : Sp.escape ⟨s, p, false, u, ps⟩ = (v, r')) : Sp.restGo (k + 1) out ⟨s, p, false, u, ps⟩ = Sp.restGo k (out ++ v) r' := by
 rw [Sp.restGo, if_pos ⟨h, rfl⟩, Sp.next_mk, if_neg (by rw [hb]; decide), Sp.escapeFollows_mk, if_pos he, e]
theorem Sp.restGo_no {k p : Nat} {out s : List UInt8} {u ps : Bool} (hb : Sp.nameByte (Sp.nx s p) = false) (he : Sp.escAt s p = false) : Sp.restGo k out ⟨s, p, false, u, ps⟩ = (out, ⟨s, p, false, u, ps⟩) := by
 cases k with
 | zero => rfl
 | succ k =>
  rw [Sp.restGo]
  split
  ·rw [Sp.next_mk, if_neg (by rw [hb]; decide), Sp.escapeFollows_mk, if_neg (by rw [he]; decide)]
  rfl
theorem Sp.restGo_end {k p : Nat} {out s : List UInt8} {b u ps : Bool} (h : ¬ (p < s.length ∧ b = false)) : Sp.restGo k out ⟨s, p, b, u, ps⟩ = (out, ⟨s, p, b, u, ps⟩) := by
 cases k with
 | zero => rfl
 | succ k => rw [Sp.restGo, if_neg h]
theorem Sp.quotedGo_close {q k p : Nat} {out s : List UInt8} {b u ps : Bool} (h : p < s.length) (hq : Sp.nx s p = q) : Sp.quotedGo q (k + 1) out ⟨s, p, b, u, ps⟩ = (out, ⟨s, p + 1, b, u, ps⟩) := by
 rw [Sp.quotedGo, if_pos h]; simp only [Sp.next_mk]; rw [if_pos hq]; rfl
theorem Sp.quotedGo_nl {q k p : Nat} {out s : List UInt8} {b u ps : Bool} (h : p < s.length) (hq : ¬ Sp.nx s p = q) (h3 : Sp.nx s p = 10 ∨ Sp.nx s p = 13 ∨ Sp.nx s p = 12) : Sp.quotedGo q (k + 1) out ⟨s, p, b, u, ps⟩ = ([], ⟨s, p, true, u, ps⟩) := by
 rw [Sp.quotedGo, if_pos h]; simp only [Sp.next_mk]; rw [if_neg hq, if_pos h3]; rfl
theorem Sp.quotedGo_char {q k p : Nat} {out s : List UInt8} {b u ps : Bool} (h : p < s.length) (hq : ¬ Sp.nx s p = q) (h3 : ¬ (Sp.nx s p = 10 ∨ Sp.nx s p = 13 ∨ Sp.nx s p = 12)) (h4 : ¬ Sp.nx s p = 92) : Sp.quotedGo q (k + 1) out ⟨s, p, b, u, ps⟩ = Sp.quotedGo q k (out ++ (s.drop p).take 1) ⟨s, p + 1, b, u, ps⟩ := by
 rw [Sp.quotedGo, if_pos h]; simp only [Sp.next_mk]; rw [if_neg hq, if_neg h3, if_pos h4]; rfl
theorem Sp.quotedGo_esc {q k p : Nat} {out s v : List UInt8} {b u ps : Bool} {r' : Rd} (h : p < s.length) (hq : ¬ Sp.nx s p = q) (h3 : ¬ (Sp.nx s p = 10 ∨ Sp.nx s p = 13 ∨ Sp.nx s p = 12)) (h4 : Sp.nx s p = 92) (he : Sp.escAt s p = true) (e : Sp.escape ⟨s, p, b, u, ps⟩ = (v, r')) : Sp.quotedGo q (k + 1) out ⟨s, p, b, u, ps⟩ = Sp.quotedGo q k (out ++ v) r' := by
 rw [Sp.quotedGo, if_pos h]; simp only [Sp.next_mk]; rw [if_neg hq, if_neg h3, if_neg om, Sp.escapeFollows_mk, if_pos he, e]
theorem Sp.quotedGo_skip {q k p : Nat} {out s : List UInt8} {b u ps is : Bool} {r' : Rd} (h : p < s.length) (hq : ¬ Sp.nx s p = q) (h3 : ¬ (Sp.nx s p = 10 ∨ Sp.nx s p = 13 ∨ Sp.nx s p = 12)) (h4 : Sp.nx s p = 92) (he : Sp.escAt s p = false) (e : Sp.taken ⟨s, p + 1, b, u, ps⟩ [13, 10] = (is, r')) : Sp.quotedGo q (k + 1) out ⟨s, p, b, u, ps⟩ = Sp.quotedGo q k out (if is = true then r' else r'.adv 1) := by
 have h1 : Rd.adv ⟨s, p, b, u, ps⟩ 1 = ⟨s, p + 1, b, u, ps⟩ := rfl
 rw [Sp.quotedGo, if_pos h]; simp only [Sp.next_mk]; rw [if_neg hq, if_neg h3, if_neg om, Sp.escapeFollows_mk, if_neg (by rw [he]; decide), h1, e]
theorem Sp.quotedGo_out {q k p : Nat} {out s : List UInt8} {b u ps : Bool} (h : ¬ p < s.length) : Sp.quotedGo q k out ⟨s, p, b, u, ps⟩ = ([], ⟨s, p, true, u, ps⟩) := by
 cases k with
 | zero => rfl
 | succ k => rw [Sp.quotedGo, if_neg h]; rfl
theorem Sp.taken_no {r r' : Rd} {t : List UInt8} (e : Sp.taken r t = (false, r')) : r' = r := by
 unfold Sp.taken at e
 split at e <;> simp at e
 exact e.symm
def Sp.anyAt (t : List UInt8) (i : Nat) : Bool := (t.take i).any fun c => decide (128 ≤ c.toNat)
theorem Sp.anyAt_succ (t : List UInt8) (i : Nat) (h : i < t.length) : Sp.anyAt t (i + 1) = (Sp.anyAt t i || decide (128 ≤ byteAt t i)) := by
 unfold Sp.anyAt
 rw [List.take_succ_eq_append_getElem h, List.any_append]
 simp [byteAt, h]
theorem Sp.anyAt_end (t : List UInt8) (i : Nat) (h : t.length ≤ i) : Sp.anyAt t i = t.any fun c => decide (128 ≤ c.toNat) := by
 unfold Sp.anyAt
 rw [List.take_of_length_le h]
theorem Sp.readable_end (s : List UInt8) (m i : Nat) (h : s.length ≤ i) : Sp.readableGo s m i = true := by
 cases m with
 | zero => rfl
 | succ m => rw [Sp.readableGo, if_neg om]
theorem point_calls (s : List UInt8) (i : Nat) (w0 : World) (hi : i < s.length) (hb : s.length ≤ 1000) :
 CR PR 16 [str s, .int .i64 (i : Int)] w0 fun v w' => v = .tuple #[.int .i64 ((Sp.point s i).1 : Int), .int .i64 ((Sp.point s i).2 : Int)] ∧ Gr w0 w' none := by
 have hG : Gr w0 w0 none := Gr.refl _ _
 refine CR.of (n := 98) [(0, str s), (1, .int .i64 (i : Int))] Tryz.func16 rfl Tryz.ntmps16 rfl ⟨rfl, rfl, trivial⟩<|qr<|pr 2 rfl<|nsq ?_
 have hbi := byteAt_lt s i
 refine rR<|pr 2 rfl<|qq (R.idxS rfl rfl _ rfl om u9) rfl<|qq (R.cvN rfl u3 kR om) rfl<|pr 1 rfl<|nsqr<|pr 1 rfl<|ns<|C.cut (fun l w' => ∃ c many least : Nat, l = [(0, str s), (1, .int .i64 (i : Int)), (4, .int .i64 (c : Int)), (5, .int .i64 (many : Int)), (7, .int .i64 (least : Int))] ∧ Gr w0 w' none ∧ Sp.point s i = (if many = 0 then (0, 0) else Sp.pointTail s i c many least) ∧ many ≤ 4 ∧ (many = 0 ∨ 2 ≤ many) ∧ c < 32) ?_ ?_
 ·refine rO<|qr<|pr 1 rfl<|qq (R.ltI rfl rfl) rfl<|pr 1 rfl<|ns<|cD rfl (fun h1 => ?_) fun h1 => ?_
  ·refine qr<|pr 3 rfl<|nst<|rC<|rH<|At.res2 rfl rfl rfl ⟨?_, hG⟩
   rw [show Sp.point s i = (byteAt s i, 1) from by simp only [Sp.point]; rw [if_pos om]]
   rfl
  refine qr<|pr 1 rfl<|W.split (R.geI rfl rfl) rfl rfl rfl (fun h2 => ?_) (fun h2 => ?_)
  ·refine pr 2 rfl<|gg (R.ltI rfl rfl) rfl<|pr 2 rfl<|ns<|cD rfl (fun h3 => ?_) fun h3 => ?_
   ·refine rR<|pr 1 rfl<|qq (R.subN 192 rfl rfl om om) rfl<|pr 3 rfl<|nB ?_
    have hP : Sp.point s i = Sp.pointTail s i (byteAt s i - 192) 2 128 := by simp only [Sp.point]; rw [if_neg om, if_pos om]
    exact cT [(0, str s), (1, .int .i64 (i : Int)), (4, .int .i64 ((byteAt s i - 192 : Nat) : Int)), (5, .int .i64 ((2 : Nat) : Int)), (7, .int .i64 ((128 : Nat) : Int))] rfl ⟨byteAt s i - 192, 2, 128, rfl, hG, by rw [hP]; rfl, om, om, om⟩
   refine qr<|pr 1 rfl<|W.split (R.geI rfl rfl) rfl rfl rfl (fun h4 => ?_) (fun h4 => ?_)
   ·refine pr 2 rfl<|gg (R.ltI rfl rfl) rfl<|pr 2 rfl<|ns<|cD rfl (fun h5 => ?_) fun h5 => ?_
    ·refine rR<|pr 1 rfl<|qq (R.subN 224 rfl rfl om om) rfl<|pr 3 rfl<|nB ?_
     have hP : Sp.point s i = Sp.pointTail s i (byteAt s i - 224) 3 2048 := by simp only [Sp.point]; rw [if_neg om, if_neg om, if_pos om]
     exact cT [(0, str s), (1, .int .i64 (i : Int)), (4, .int .i64 ((byteAt s i - 224 : Nat) : Int)), (5, .int .i64 ((3 : Nat) : Int)), (7, .int .i64 ((2048 : Nat) : Int))] rfl ⟨byteAt s i - 224, 3, 2048, rfl, hG, by rw [hP]; rfl, om, om, om⟩
    refine qr<|pr 1 rfl<|W.split (R.geI rfl rfl) rfl rfl rfl (fun h6 => ?_) (fun h6 => ?_)
    ·refine pr 2 rfl<|gg (R.ltI rfl rfl) rfl<|pr 2 rfl<|ns<|cD rfl (fun h7 => ?_) fun h7 => ?_
     ·refine rR<|pr 1 rfl<|qq (R.subN 240 rfl rfl om om) rfl<|pr 3 rfl<|nB ?_
      have hP : Sp.point s i = Sp.pointTail s i (byteAt s i - 240) 4 65536 := by simp only [Sp.point]; rw [if_neg om, if_neg om, if_neg om, if_pos om]
      exact cT [(0, str s), (1, .int .i64 (i : Int)), (4, .int .i64 ((byteAt s i - 240 : Nat) : Int)), (5, .int .i64 ((4 : Nat) : Int)), (7, .int .i64 ((65536 : Nat) : Int))] rfl ⟨byteAt s i - 240, 4, 65536, rfl, hG, by rw [hP]; rfl, om, om, om⟩
     refine rK<|rB ?_
     have hP : Sp.point s i = (0, 0) := by simp only [Sp.point]; rw [if_neg om, if_neg om, if_neg om, if_neg om]
     exact cT [(0, str s), (1, .int .i64 (i : Int)), (4, .int .i64 ((0 : Nat) : Int)), (5, .int .i64 ((0 : Nat) : Int)), (7, .int .i64 ((0 : Nat) : Int))] rfl ⟨0, 0, 0, rfl, hG, by rw [hP]; rfl, om, om, om⟩
    refine pr 5 rfl<|ns<|cF rfl<|rK<|rB ?_
    have hP : Sp.point s i = (0, 0) := by simp only [Sp.point]; rw [if_neg om, if_neg om, if_neg om, if_neg om]
    exact cT [(0, str s), (1, .int .i64 (i : Int)), (4, .int .i64 ((0 : Nat) : Int)), (5, .int .i64 ((0 : Nat) : Int)), (7, .int .i64 ((0 : Nat) : Int))] rfl ⟨0, 0, 0, rfl, hG, by rw [hP]; rfl, om, om, om⟩
   refine pr 5 rfl<|ns<|cF rfl<|qr<|pr 1 rfl<|W.split (R.geI rfl rfl) rfl rfl rfl (fun h8 => ?_) (fun h8 => ?_)
   ·refine pr 2 rfl<|gg (R.ltI rfl rfl) rfl<|pr 2 rfl<|ns<|cD rfl (fun h9 => ?_) fun h9 => ?_
    ·refine rR<|pr 1 rfl<|qq (R.subN 240 rfl rfl om om) rfl<|pr 3 rfl<|nB ?_
     have hP : Sp.point s i = Sp.pointTail s i (byteAt s i - 240) 4 65536 := by simp only [Sp.point]; rw [if_neg om, if_neg om, if_neg om, if_pos om]
     exact cT [(0, str s), (1, .int .i64 (i : Int)), (4, .int .i64 ((byteAt s i - 240 : Nat) : Int)), (5, .int .i64 ((4 : Nat) : Int)), (7, .int .i64 ((65536 : Nat) : Int))] rfl ⟨byteAt s i - 240, 4, 65536, rfl, hG, by rw [hP]; rfl, om, om, om⟩
    refine rK<|rB ?_
    have hP : Sp.point s i = (0, 0) := by simp only [Sp.point]; rw [if_neg om, if_neg om, if_neg om, if_neg om]
    exact cT [(0, str s), (1, .int .i64 (i : Int)), (4, .int .i64 ((0 : Nat) : Int)), (5, .int .i64 ((0 : Nat) : Int)), (7, .int .i64 ((0 : Nat) : Int))] rfl ⟨0, 0, 0, rfl, hG, by rw [hP]; rfl, om, om, om⟩
   refine pr 5 rfl<|ns<|cF rfl<|rK<|rB ?_
   have hP : Sp.point s i = (0, 0) := by simp only [Sp.point]; rw [if_neg om, if_neg om, if_neg om, if_neg om]
   exact cT [(0, str s), (1, .int .i64 (i : Int)), (4, .int .i64 ((0 : Nat) : Int)), (5, .int .i64 ((0 : Nat) : Int)), (7, .int .i64 ((0 : Nat) : Int))] rfl ⟨0, 0, 0, rfl, hG, by rw [hP]; rfl, om, om, om⟩
  refine pr 5 rfl<|ns<|cF rfl<|qr<|pr 1 rfl<|W.split (R.geI rfl rfl) rfl rfl rfl (fun h10 => ?_) (fun h10 => ?_)
  ·refine pr 2 rfl<|gg (R.ltI rfl rfl) rfl<|pr 2 rfl<|ns<|cD rfl (fun h11 => ?_) fun h11 => ?_
   ·refine rR<|pr 1 rfl<|qq (R.subN 224 rfl rfl om om) rfl<|pr 3 rfl<|nB ?_
    have hP : Sp.point s i = Sp.pointTail s i (byteAt s i - 224) 3 2048 := by simp only [Sp.point]; rw [if_neg om, if_neg om, if_pos om]
    exact cT [(0, str s), (1, .int .i64 (i : Int)), (4, .int .i64 ((byteAt s i - 224 : Nat) : Int)), (5, .int .i64 ((3 : Nat) : Int)), (7, .int .i64 ((2048 : Nat) : Int))] rfl ⟨byteAt s i - 224, 3, 2048, rfl, hG, by rw [hP]; rfl, om, om, om⟩
   refine qr<|pr 1 rfl<|W.split (R.geI rfl rfl) rfl rfl rfl (fun h12 => ?_) (fun h12 => ?_)
   ·refine pr 2 rfl<|gg (R.ltI rfl rfl) rfl<|pr 2 rfl<|ns<|cD rfl (fun h13 => ?_) fun h13 => ?_
    ·refine rR<|pr 1 rfl<|qq (R.subN 240 rfl rfl om om) rfl<|pr 3 rfl<|nB ?_
     have hP : Sp.point s i = Sp.pointTail s i (byteAt s i - 240) 4 65536 := by simp only [Sp.point]; rw [if_neg om, if_neg om, if_neg om, if_pos om]
     exact cT [(0, str s), (1, .int .i64 (i : Int)), (4, .int .i64 ((byteAt s i - 240 : Nat) : Int)), (5, .int .i64 ((4 : Nat) : Int)), (7, .int .i64 ((65536 : Nat) : Int))] rfl ⟨byteAt s i - 240, 4, 65536, rfl, hG, by rw [hP]; rfl, om, om, om⟩
    refine rK<|rB ?_
    have hP : Sp.point s i = (0, 0) := by simp only [Sp.point]; rw [if_neg om, if_neg om, if_neg om, if_neg om]
    exact cT [(0, str s), (1, .int .i64 (i : Int)), (4, .int .i64 ((0 : Nat) : Int)), (5, .int .i64 ((0 : Nat) : Int)), (7, .int .i64 ((0 : Nat) : Int))] rfl ⟨0, 0, 0, rfl, hG, by rw [hP]; rfl, om, om, om⟩
   refine pr 5 rfl<|ns<|cF rfl<|rK<|rB ?_
   have hP : Sp.point s i = (0, 0) := by simp only [Sp.point]; rw [if_neg om, if_neg om, if_neg om, if_neg om]
   exact cT [(0, str s), (1, .int .i64 (i : Int)), (4, .int .i64 ((0 : Nat) : Int)), (5, .int .i64 ((0 : Nat) : Int)), (7, .int .i64 ((0 : Nat) : Int))] rfl ⟨0, 0, 0, rfl, hG, by rw [hP]; rfl, om, om, om⟩
  refine pr 5 rfl<|ns<|cF rfl<|qr<|pr 1 rfl<|W.split (R.geI rfl rfl) rfl rfl rfl (fun h14 => ?_) (fun h14 => ?_)
  ·refine pr 2 rfl<|gg (R.ltI rfl rfl) rfl<|pr 2 rfl<|ns<|cD rfl (fun h15 => ?_) fun h15 => ?_
   ·refine rR<|pr 1 rfl<|qq (R.subN 240 rfl rfl om om) rfl<|pr 3 rfl<|nB ?_
    have hP : Sp.point s i = Sp.pointTail s i (byteAt s i - 240) 4 65536 := by simp only [Sp.point]; rw [if_neg om, if_neg om, if_neg om, if_pos om]
    exact cT [(0, str s), (1, .int .i64 (i : Int)), (4, .int .i64 ((byteAt s i - 240 : Nat) : Int)), (5, .int .i64 ((4 : Nat) : Int)), (7, .int .i64 ((65536 : Nat) : Int))] rfl ⟨byteAt s i - 240, 4, 65536, rfl, hG, by rw [hP]; rfl, om, om, om⟩
   refine rK<|rB ?_
   have hP : Sp.point s i = (0, 0) := by simp only [Sp.point]; rw [if_neg om, if_neg om, if_neg om, if_neg om]
   exact cT [(0, str s), (1, .int .i64 (i : Int)), (4, .int .i64 ((0 : Nat) : Int)), (5, .int .i64 ((0 : Nat) : Int)), (7, .int .i64 ((0 : Nat) : Int))] rfl ⟨0, 0, 0, rfl, hG, by rw [hP]; rfl, om, om, om⟩
  refine pr 5 rfl<|ns<|cF rfl<|rK<|rB ?_
  have hP : Sp.point s i = (0, 0) := by simp only [Sp.point]; rw [if_neg om, if_neg om, if_neg om, if_neg om]
  exact cT [(0, str s), (1, .int .i64 (i : Int)), (4, .int .i64 ((0 : Nat) : Int)), (5, .int .i64 ((0 : Nat) : Int)), (7, .int .i64 ((0 : Nat) : Int))] rfl ⟨0, 0, 0, rfl, hG, by rw [hP]; rfl, om, om, om⟩
 rintro l w ⟨c0, many, least, rfl, hG, hP, hm4, hm2, hc⟩
 refine qqr<|pr 1 rfl<|W.split (R.eqI rfl rfl) rfl rfl rfl (fun h16 => ?_) (fun h16 => ?_)
 ·refine pr 8 rfl<|ns<|cV rfl<|qr<|pr 2 rfl<|nsth<|At.res2 rfl rfl rfl ⟨?_, hG⟩
  rw [hP, if_pos om]
  rfl
 refine pr 3 rfl<|gg (R.addN rfl rfl om) rfl<|pr 1 rfl<|gg (R.lenS rfl u9) rfl<|gg (R.gtI rfl rfl) rfl<|pr 1 rfl<|ns<|cD rfl (fun h17 => ?_) fun h17 => ?_
 ·refine qr<|pr 2 rfl<|nsth<|At.res2 rfl rfl rfl ⟨?_, hG⟩
  rw [hP, if_neg om, Sp.pointTail, if_pos om]
  rfl
 refine ksq<|qr<|pr 1 rfl<|aK rfl rfl<|pr 1 rfl<|ns<|rO<|sB [(0, str s), (1, .int .i64 (i : Int)), (4, .int .i64 (c0 : Int)), (5, .int .i64 (many : Int)), (7, .int .i64 (least : Int)), (8, .int .i64 ((i + 1 : Nat) : Int))] rfl<|C.loop (fun m l w' => ∃ k c : Nat, l = [(0, str s), (1, .int .i64 (i : Int)), (4, .int .i64 (c : Int)), (5, .int .i64 (many : Int)), (7, .int .i64 (least : Int)), (8, .int .i64 (k : Int))] ∧ Gr w0 w' none ∧ Sp.pointGo s m k c = Sp.pointGo s (many - 1) (i + 1) c0 ∧ k + m = i + many ∧ i + many ≤ s.length ∧ (m = 0 ∧ c < 8388608 ∨ m = 1 ∧ c < 131072 ∨ m = 2 ∧ c < 2048 ∨ m = 3 ∧ c < 32)) (many - 1) (⟨i + 1, c0, rfl, hG, rfl, om, om, om⟩) ?_
 rintro m l w ⟨k, c, rfl, hG, hE, hk, hml, hcm⟩
 refine qqr<|pr 3 rfl<|qq (R.addN rfl rfl om) rfl<|qq (R.ltI rfl rfl) rfl<|ns<|cD rfl (fun h18 => ?_) fun h18 => ?_
 ·refine ksq<|rO<|rQ<|rQ ?_
  have hbk := byteAt_lt s k
  refine rR<|pr 2 rfl<|qq (R.idxS rfl rfl _ rfl om u9) rfl<|W.split (R.ltI rfl rfl) rfl rfl rfl (fun h19 => ?_) (fun h19 => ?_)
  ·refine pr 6 rfl<|ns<|cV rfl<|qr<|pr 2 rfl<|nsth<|rC<|rH<|rH<|rC<|rH<|At.res2 rfl rfl rfl ⟨?_, hG⟩
   have hE2 : Sp.pointGo s m k c = none := by
    obtain ⟨m, rfl⟩ := sU m
    rw [Sp.pointGo, if_pos om]
   rw [hP, if_neg om, Sp.pointTail, if_neg om, ← hE, hE2]
   rfl
  refine pr 3 rfl<|gg (R.idxS rfl rfl _ rfl om u9) rfl<|gg (R.gtI rfl rfl) rfl<|pr 1 rfl<|ns<|cD rfl (fun h20 => ?_) fun h20 => ?_
  ·refine qr<|pr 2 rfl<|nsth<|rC<|rH<|rH<|rC<|rH<|At.res2 rfl rfl rfl ⟨?_, hG⟩
   have hE2 : Sp.pointGo s m k c = none := by
    obtain ⟨m, rfl⟩ := sU m
    rw [Sp.pointGo, if_pos om]
   rw [hP, if_neg om, Sp.pointTail, if_neg om, ← hE, hE2]
   rfl
  refine ks<|rR<|pr 1 rfl<|qq (R.shl6 rfl rfl om) rfl<|pr 2 rfl<|qq (R.idxS rfl rfl _ rfl om u9) rfl<|qq (R.cvN rfl u3 kR om) rfl<|qq (R.addN rfl rfl om) rfl<|qq (R.subN 128 rfl rfl om om) rfl<|pr 1 rfl<|nbs<|rR<|pr 1 rfl<|aK rfl rfl<|pr 1 rfl<|rN ?_
  obtain ⟨m, rfl⟩ := sU m
  rw [Sp.pointGo, if_neg om] at hE
  exact cT [(0, str s), (1, .int .i64 (i : Int)), (4, .int .i64 ((c * 64 + byteAt s k - 128 : Nat) : Int)), (5, .int .i64 (many : Int)), (7, .int .i64 (least : Int)), (8, .int .i64 ((k + 1 : Nat) : Int))] rfl ⟨m, om, k + 1, _, rfl, hG, hE, om, om, om⟩
 refine rE<|rX<|rX<|rY<|sq<|qr<|pr 2 rfl<|W.split (R.ltI rfl rfl) rfl rfl rfl (fun h21 => ?_) (fun h21 => ?_)
 ·refine pr 12 rfl<|ns<|cV rfl<|qr<|pr 2 rfl<|nsth<|At.res2 rfl rfl rfl ⟨?_, hG⟩
  have hm0 : m = 0 := by omega
  subst hm0
  rw [Sp.pointGo] at hE
  rw [hP, if_neg om, Sp.pointTail, if_neg om, ← hE]
  dsimp only
  rw [if_pos om]
  rfl
 refine pr 2 rfl<|gg (R.gtI rfl rfl) rfl<|W.split (R.pickF rfl rfl) rfl rfl rfl (fun h22 => ?_) (fun h22 => ?_)
 ·refine pr 8 rfl<|ns<|cV rfl<|qr<|pr 2 rfl<|nsth<|At.res2 rfl rfl rfl ⟨?_, hG⟩
  have hm0 : m = 0 := by omega
  subst hm0
  rw [Sp.pointGo] at hE
  rw [hP, if_neg om, Sp.pointTail, if_neg om, ← hE]
  dsimp only
  rw [if_pos om]
  rfl
 refine pr 2 rfl<|W.gsplit rfl (R.geI rfl rfl) rfl rfl rfl (fun h23 => ?_) (fun h23 => ?_)
 ·refine pr 2 rfl<|gg (R.ltI rfl rfl) rfl<|pr 2 rfl<|ns<|cD rfl (fun h24 => ?_) fun h24 => ?_
  ·refine qr<|pr 2 rfl<|nsth<|At.res2 rfl rfl rfl ⟨?_, hG⟩
   have hm0 : m = 0 := by omega
   subst hm0
   rw [Sp.pointGo] at hE
   rw [hP, if_neg om, Sp.pointTail, if_neg om, ← hE]
   dsimp only
   rw [if_pos om]
   rfl
  refine ksqr<|pr 4 rfl<|nst<|At.res2 rfl rfl rfl ⟨?_, hG⟩
  have hm0 : m = 0 := by omega
  subst hm0
  rw [Sp.pointGo] at hE
  rw [hP, if_neg om, Sp.pointTail, if_neg om, ← hE]
  dsimp only
  rw [if_neg om]
 refine pr 5 rfl<|ns<|cF rfl<|ksqr<|pr 4 rfl<|nst<|At.res2 rfl rfl rfl ⟨?_, hG⟩
 have hm0 : m = 0 := by omega
 subst hm0
 rw [Sp.pointGo] at hE
 rw [hP, if_neg om, Sp.pointTail, if_neg om, ← hE]
 dsimp only
 rw [if_neg om]
theorem readable_calls (s : List UInt8) (w0 : World) (hb : s.length ≤ 1000) :
 CR PR 9 [str s] w0 fun v w' => v = .bool (Sp.readable s) ∧ Gr w0 w' none := by
 have hG : Gr w0 w0 none := Gr.refl _ _
 refine CR.of (n := 29) [(0, str s)] Tryz.func9 rfl Tryz.ntmps9 rfl ⟨rfl, trivial⟩<|qr<|pr 1 rfl<|nsq<|qr<|pr 1 rfl<|ns<|rO<|sB [(0, str s), (3, .int .i64 ((0 : Nat) : Int))] rfl<|C.loop (fun m l w' => ∃ k : Nat, l = [(0, str s), (3, .int .i64 (k : Int))] ∧ Gr w0 w' none ∧ Sp.readableGo s m k = Sp.readable s ∧ k ≤ s.length ∧ s.length < k + m) (s.length + 1) (⟨0, rfl, hG, rfl, om, om⟩) ?_
 rintro m l w ⟨k, rfl, hG, hE, hk, hm⟩
 refine qqr<|pr 2 rfl<|qq (R.lenS rfl u9) rfl<|qq (R.ltI rfl rfl) rfl<|ns<|cD rfl (fun h1 => ?_) fun h1 => ?_
 ·refine ks<|rO<|qr<|pr 2 rfl<|eN en16 rfl (point_calls s k _ om hb) fun v w hv => ?_
  obtain ⟨rfl, hv⟩ := hv
  have hG := hG.trans hv
  have hpl := Sp.point_le s k om
  refine pr 5 rfl<|nsq<|qr<|pr 1 rfl<|W.split (R.eqI rfl rfl) rfl rfl rfl (fun h2 => ?_) (fun h2 => ?_)
  ·refine pr 8 rfl<|ns<|cV rfl<|qr<|pr 1 rfl<|nsth<|rC<|rH<|rC<|rH<|rA rfl rfl ⟨?_, hG⟩
   obtain ⟨m, rfl⟩ := sU m
   rw [← hE, Sp.readableGo, if_pos om, if_pos om]
  refine pr 2 rfl<|gg (R.eqI rfl rfl) rfl<|W.split (R.pickF rfl rfl) rfl rfl rfl (fun h3 => ?_) (fun h3 => ?_)
  ·refine pr 4 rfl<|ns<|cV rfl<|qr<|pr 1 rfl<|nsth<|rC<|rH<|rC<|rH<|rA rfl rfl ⟨?_, hG⟩
   obtain ⟨m, rfl⟩ := sU m
   rw [← hE, Sp.readableGo, if_pos om, if_pos om]
  refine pr 2 rfl<|gg (R.eqI rfl rfl) rfl<|pr 1 rfl<|ns<|cD rfl (fun h4 => ?_) fun h4 => ?_
  ·refine qr<|pr 1 rfl<|nsth<|rC<|rH<|rC<|rH<|rA rfl rfl ⟨?_, hG⟩
   obtain ⟨m, rfl⟩ := sU m
   rw [← hE, Sp.readableGo, if_pos om, if_pos om]
  refine ks<|rR<|pr 2 rfl<|qq (R.addN rfl rfl om) rfl<|pr 1 rfl<|nB ?_
  obtain ⟨m, rfl⟩ := sU m
  rw [Sp.readableGo, if_pos om, if_neg om] at hE
  exact cT [(0, str s), (3, .int .i64 ((k + (Sp.point s k).2 : Nat) : Int))] rfl ⟨m, om, k + (Sp.point s k).2, rfl, hG, hE, om, om⟩
 refine rE<|rX<|rX<|rY<|sqr<|pr 1 rfl<|nst<|rA rfl rfl ⟨?_, hG⟩
 rw [← hE, Sp.readable_end s m k om]
theorem Encoded_calls (n : Nat) (w0 : World) (hn : n ≤ 1114111) :
 CR PR 71 [.int .i64 (n : Int)] w0 fun v w' => v = str (Sp.utf8 n) ∧ Gr w0 w' none := by
 have hG : Gr w0 w0 none := Gr.refl _ _
 refine CR.of (n := 7) [(0, .int .i64 (n : Int))] Tryz.func71 rfl Tryz.ntmps71 rfl ⟨rfl, trivial⟩<|qr<|pr 1 rfl<|nsqr<|pr 1 rfl<|qq (R.cv rfl u21 kR (wrap32 om)) rfl<|W.buildSlice (ps := [(0, .int .i32 (n : Int))]) (fun a ha => by simp [ha.ev (x := .tmp 4) rfl]) (row143 _ rfl) rfl fun w b hbz hB hv => ?_
 have hG := hG.trans hv
 exact qq (R.ofRune rfl u143 u21 u9 hB) rfl<|pr 1 rfl<|nst<|rA rfl rfl ⟨rfl, hG⟩
theorem escape_calls (g : Nat) (s : List UInt8) (p0 : Nat) (b0 u0 ps : Bool) (w0 : World) (hr : RD g ⟨s, p0, b0, u0, ps⟩ w0) (hb : s.length ≤ 1000) (hp : p0 + 1 < s.length) :
 CR PR 55 [pP g] w0 fun v w' => v = str (Sp.escape ⟨s, p0, b0, u0, ps⟩).1 ∧ RD g (Sp.escape ⟨s, p0, b0, u0, ps⟩).2 w' ∧ Gr w0 w' (some g) := by
 have hr : RK g s p0 b0 u0 ps _ := hr
 have hG : Gr w0 w0 (some g) := Gr.refl _ _
 refine CR.of (n := 114) [(0, pP g)] Tryz.func55 rfl Tryz.ntmps55 rfl ⟨rfl, trivial⟩<|qr<|pr 1 rfl<|nsqr<|pr 2 rfl<|fA fo38_1 rfl<|lD sc3 hr rfl rfl<|aK rfl rfl<|pr 1 rfl<|fA fo38_1 rfl<|sT sc3 hr rfl fun w hr hs => ?_
 have hr : RK g s (p0 + 1) b0 u0 ps _ := hr
 have hG := hG.trans hs
 refine nsqr<|pr 2 rfl<|ns<|C.cut (fun l w' => ∃ p n many : Nat, l = [(0, pP g), (3, .int .i64 (n : Int)), (4, .int .i64 (many : Int))] ∧ RD g ⟨s, p, b0, u0, ps⟩ w' ∧ Gr w0 w' (some g) ∧ Sp.hexGo 6 0 0 ⟨s, p0 + 1, b0, u0, ps⟩ = (n, many, ⟨s, p, b0, u0, ps⟩) ∧ n < 16777216 ∧ p = p0 + 1 + many ∧ p ≤ s.length) ?_ ?_
 ·refine rO<|sB [(0, pP g), (3, .int .i64 ((0 : Nat) : Int)), (4, .int .i64 ((0 : Nat) : Int))] rfl<|C.loop (fun m l w' => ∃ p n many : Nat, l = [(0, pP g), (3, .int .i64 (n : Int)), (4, .int .i64 (many : Int))] ∧ RD g ⟨s, p, b0, u0, ps⟩ w' ∧ Gr w0 w' (some g) ∧ Sp.hexGo m n many ⟨s, p, b0, u0, ps⟩ = Sp.hexGo 6 0 0 ⟨s, p0 + 1, b0, u0, ps⟩ ∧ many + m = 6 ∧ n < 16 ^ many ∧ p = p0 + 1 + many ∧ p ≤ s.length) (6) (⟨p0 + 1, 0, 0, rfl, hr, hG, rfl, om, by decide, om, om⟩) ?_
  rintro m l w ⟨p, n, many, rfl, hr, hG, hE, hm, hn, hpe, hpl⟩
  have hn6 : n < 16777216 := Nat.lt_of_lt_of_le hn (Nat.le_trans (Nat.pow_le_pow_right (by omega : 0 < 16) (by omega : many ≤ 6)) dC)
  have hr : RK g s p b0 u0 ps _ := hr
  refine qqr<|pr 1 rfl<|W.split (R.ltI rfl rfl) rfl rfl rfl (fun h1 => ?_) (fun h1 => ?_)
  ·refine pr 2 rfl<|gN rfl en26 rfl (nx_calls g s p b0 u0 ps _ hr hb om) fun v w hv => ?_
   obtain ⟨rfl, hv⟩ := hv
   have hr := hr.grN hv
   have hG := hG.trans (hv.no _)
   have hnx := Sp.nx_lt s (p)
   refine gN rfl en70 rfl (hexI_calls _ _) fun v w hv => ?_
   obtain ⟨rfl, hv⟩ := hv
   have hr := hr.grN hv
   have hG := hG.trans (hv.no _)
   refine gg (R.geI rfl rfl) rfl<|pr 1 rfl<|ns<|cD rfl (fun h2 => ?_) fun h2 => ?_
   ·obtain ⟨d, hd, hdI, hd16⟩ := Sp.hexI_some ‹0 ≤ Sp.hexI _›
    have hps := Sp.hex_pos hd
    refine ks<|rO<|qr<|pr 1 rfl<|qq (R.mulK 16 rfl rfl om) rfl<|pr 1 rfl<|eN en26 rfl (nx_calls g s p b0 u0 ps _ hr hb om) fun v w hv => ?_
    obtain ⟨rfl, hv⟩ := hv
    have hr := hr.grN hv
    have hG := hG.trans (hv.no _)
    have hnx := Sp.nx_lt s (p)
    refine eN en70 rfl (hexI_calls _ _) fun v w hv => ?_
    obtain ⟨rfl, hv⟩ := hv
    have hr := hr.grN hv
    have hG := hG.trans (hv.no _)
    rw [hdI]
    refine qq (R.addN rfl rfl om) rfl<|pr 1 rfl<|nsqr<|pr 2 rfl<|fA fo38_1 rfl<|lD sc3 hr rfl rfl<|aK rfl rfl<|pr 1 rfl<|fA fo38_1 rfl<|sT sc3 hr rfl fun w hr hs => ?_
    have hr : RK g s (p + 1) b0 u0 ps _ := hr
    have hG := hG.trans hs
    refine nsr<|pr 1 rfl<|aK rfl rfl<|pr 1 rfl<|nB ?_
    obtain ⟨m, rfl⟩ := sU m
    have hd2 : Sp.hexv (Sp.next ⟨s, p, b0, u0, ps⟩) = some d := hd
    rw [Sp.hexGo, hd2] at hE
    exact cT [(0, pP g), (3, .int .i64 ((16 * n + d : Nat) : Int)), (4, .int .i64 ((many + 1 : Nat) : Int))] rfl ⟨m, om, p + 1, _, _, rfl, hr, hG, hE, om, by rw [Nat.pow_succ]; omega, om, om⟩
   refine rE<|rX<|rX<|rY ?_
   have hE2 : Sp.hexGo m n many ⟨s, p, b0, u0, ps⟩ = (n, many, ⟨s, p, b0, u0, ps⟩) := by
    cases m with
    | zero => rfl
    | succ m =>
     first
     | (exfalso; omega)
     | (have hnn : Sp.hexv (Sp.next ⟨s, p, b0, u0, ps⟩) = none := Sp.hexI_none ‹¬ 0 ≤ Sp.hexI _›; rw [Sp.hexGo, hnn])
   exact cT [(0, pP g), (3, .int .i64 (n : Int)), (4, .int .i64 (many : Int))] rfl ⟨p, n, many, rfl, hr, hG, hE.symm.trans hE2, hn6, hpe, hpl⟩
  refine pr 6 rfl<|ns<|cF rfl<|rE<|rX<|rX<|rY ?_
  have hE2 : Sp.hexGo m n many ⟨s, p, b0, u0, ps⟩ = (n, many, ⟨s, p, b0, u0, ps⟩) := by
   cases m with
   | zero => rfl
   | succ m =>
    first
    | (exfalso; omega)
    | (have hnn : Sp.hexv (Sp.next ⟨s, p, b0, u0, ps⟩) = none := Sp.hexI_none ‹¬ 0 ≤ Sp.hexI _›; rw [Sp.hexGo, hnn])
  exact cT [(0, pP g), (3, .int .i64 (n : Int)), (4, .int .i64 (many : Int))] rfl ⟨p, n, many, rfl, hr, hG, hE.symm.trans hE2, hn6, hpe, hpl⟩
 rintro l w ⟨p, n, many, rfl, hr, hG, hE, hn6, hpe, hpl⟩
 have hr : RK g s p b0 u0 ps _ := hr
 refine qqr<|pr 1 rfl<|qq (R.eqI rfl rfl) rfl<|ns<|cD rfl (fun h3 => ?_) fun h3 => ?_
 ·have hm0 : many = 0 := by omega
  subst hm0
  have hpp : p = p0 + 1 := by omega
  have hpt := Sp.point_le s p om
  refine rQ<|dR<|prq 2 rfl<|fQ fo38_0 rfl<|lQ sc9 hr rfl rfl<|prq 2 rfl<|fQ fo38_1 rfl<|lQ sc3 hr rfl rfl<|Wq.enter (fun w hw => R.call en16 rfl) rfl rfl rfl (fun w hw => (point_calls s _ _ om hb).mono fun v w' hv => ⟨hv.1, Gr.trans hw hv.2⟩)<|prq 5 rfl<|Wq.nil fun w hw => ?_
  have hr := hr.grN hw
  have hG := hG.trans (hw.no _)
  refine sq<|dR<|prq 2 rfl<|fQ fo38_0 rfl<|lQ sc9 hr rfl rfl<|prq 2 rfl<|fQ fo38_1 rfl<|lQ sc3 hr rfl rfl<|prq 2 rfl<|fQ fo38_1 rfl<|lQ sc3 hr rfl rfl<|prq 1 rfl<|qw (fun w hw => R.addN rfl rfl om) rfl<|qw (fun w hw => R.sliceS rfl rfl rfl rfl rfl om om u9) rfl<|prq 1 rfl<|Wq.nil fun w hw => ?_
  have hr := hr.grN hw
  have hG := hG.trans (hw.no _)
  refine sqr<|pr 2 rfl<|fA fo38_1 rfl<|lD sc3 hr rfl rfl<|pr 1 rfl<|qq (R.addN rfl rfl om) rfl<|pr 1 rfl<|fA fo38_1 rfl<|sT sc3 hr rfl fun w hr hs => ?_
  have hr : RK g s (p + (Sp.point s p).2) b0 u0 ps _ := hr
  have hG := hG.trans hs
  refine nsqr<|pr 2 rfl<|nsth<|rA rfl rfl ?_
  subst hpp
  rw [Sp.escape_none hE]
  refine ⟨?_, hr, hG⟩
  simp [Nat.add_sub_cancel_left]
 refine ksq<|qr<|pr 1 rfl<|eN en18 rfl (taken_calls g ⟨s, p, b0, u0, ps⟩ _ hr hb sO [13, 10] dC) fun v w hv => ?_
 obtain ⟨v4, p4, b4, u4, e4, hp4a, hp4b, hb4, hu4, rfl, hr, hv⟩ := spl (Sp.taken_le ⟨s, p, b0, u0, ps⟩ [13, 10] okk) hv
 have hG := hG.trans hv
 cases hb4 : v4
 ·refine pr 3 rfl<|gN rfl en26 rfl (nx_calls g s p4 b4 u4 ps _ hr hb om) fun v w hv => ?_
  obtain ⟨rfl, hv⟩ := hv
  have hr := hr.grN hv
  have hG := hG.trans (hv.no _)
  have hnx := Sp.nx_lt s (p4)
  refine gN rfl en32 rfl (isSpace_calls _ _) fun v w hv => ?_
  obtain ⟨rfl, hv⟩ := hv
  have hr := hr.grN hv
  have hG := hG.trans (hv.no _)
  refine pr 1 rfl<|ns<|cC rfl (fun h6 => ?_) (fun h6 => ?_)
  ·try simp only [Bool.not_eq_true', Bool.not_eq_false'] at h6
   refine rR<|pr 2 rfl<|fA fo38_1 rfl<|lD sc3 hr rfl rfl<|aK rfl rfl<|pr 1 rfl<|fA fo38_1 rfl<|sT sc3 hr rfl fun w hr hs => ?_
   have hr : RK g s (p4 + 1) b4 u4 ps _ := hr
   have hG := hG.trans hs
   refine nsq<|qr<|pr 1 rfl<|W.split (R.eqI rfl rfl) rfl rfl rfl (fun h7 => ?_) (fun h7 => ?_)
   ·refine pr 16 rfl<|ns<|cV rfl<|qr<|pr 2 rfl<|fA fo38_3 rfl<|sT sc4 hr rfl fun w hr hs => ?_
    have hr : RK g s (p4 + 1) b4 true ps _ := hr
    have hG := hG.trans hs
    refine nsqr<|pr 1 rfl<|nsth<|rA rfl rfl ?_
    have hT : Sp.escape ⟨s, p0, b0, u0, ps⟩ = _ := Sp.escape_some (r3 := ⟨s, p4 + 1, b4, u4, ps⟩) hE om e4 (by simp [h3, e4, hb4, h6, h7, Rd.adv])
    rw [if_pos om] at hT
    rw [hT]
    dsimp only
    exact ⟨rfl, hr, hG⟩
   refine pr 2 rfl<|gg (R.eqI rfl rfl) rfl<|W.split (R.pickF rfl rfl) rfl rfl rfl (fun h8 => ?_) (fun h8 => ?_)
   ·refine pr 12 rfl<|ns<|cV rfl<|qr<|pr 2 rfl<|fA fo38_3 rfl<|sT sc4 hr rfl fun w hr hs => ?_
    have hr : RK g s (p4 + 1) b4 true ps _ := hr
    have hG := hG.trans hs
    refine nsqr<|pr 1 rfl<|nsth<|rA rfl rfl ?_
    have hT : Sp.escape ⟨s, p0, b0, u0, ps⟩ = _ := Sp.escape_some (r3 := ⟨s, p4 + 1, b4, u4, ps⟩) hE om e4 (by simp [h3, e4, hb4, h6, h7, Rd.adv])
    rw [if_pos om] at hT
    rw [hT]
    dsimp only
    exact ⟨rfl, hr, hG⟩
   refine pr 2 rfl<|gg (R.gtI rfl rfl) rfl<|W.split (R.pickF rfl rfl) rfl rfl rfl (fun h9 => ?_) (fun h9 => ?_)
   ·refine pr 8 rfl<|ns<|cV rfl<|qr<|pr 2 rfl<|fA fo38_3 rfl<|sT sc4 hr rfl fun w hr hs => ?_
    have hr : RK g s (p4 + 1) b4 true ps _ := hr
    have hG := hG.trans hs
    refine nsqr<|pr 1 rfl<|nsth<|rA rfl rfl ?_
    have hT : Sp.escape ⟨s, p0, b0, u0, ps⟩ = _ := Sp.escape_some (r3 := ⟨s, p4 + 1, b4, u4, ps⟩) hE om e4 (by simp [h3, e4, hb4, h6, h7, Rd.adv])
    rw [if_pos om] at hT
    rw [hT]
    dsimp only
    exact ⟨rfl, hr, hG⟩
   refine pr 2 rfl<|W.gsplit rfl (R.geI rfl rfl) rfl rfl rfl (fun h10 => ?_) (fun h10 => ?_)
   ·refine pr 2 rfl<|gg (R.ltI rfl rfl) rfl<|pr 2 rfl<|ns<|cD rfl (fun h11 => ?_) fun h11 => ?_
    ·refine qr<|pr 2 rfl<|fA fo38_3 rfl<|sT sc4 hr rfl fun w hr hs => ?_
     have hr : RK g s (p4 + 1) b4 true ps _ := hr
     have hG := hG.trans hs
     refine nsqr<|pr 1 rfl<|nsth<|rA rfl rfl ?_
     have hT : Sp.escape ⟨s, p0, b0, u0, ps⟩ = _ := Sp.escape_some (r3 := ⟨s, p4 + 1, b4, u4, ps⟩) hE om e4 (by simp [h3, e4, hb4, h6, h7, Rd.adv])
     rw [if_pos om] at hT
     rw [hT]
     dsimp only
     exact ⟨rfl, hr, hG⟩
    refine ksqr<|pr 1 rfl<|eN en71 rfl (Encoded_calls n _ om) fun v w hv => ?_
    obtain ⟨rfl, hv⟩ := hv
    have hr := hr.grN hv
    have hG := hG.trans (hv.no _)
    refine pr 1 rfl<|nst<|rA rfl rfl ?_
    have hT : Sp.escape ⟨s, p0, b0, u0, ps⟩ = _ := Sp.escape_some (r3 := ⟨s, p4 + 1, b4, u4, ps⟩) hE om e4 (by simp [h3, e4, hb4, h6, h7, Rd.adv])
    rw [if_neg om] at hT
    rw [hT]
    dsimp only
    exact ⟨rfl, hr, hG⟩
   refine pr 5 rfl<|ns<|cF rfl<|ksqr<|pr 1 rfl<|eN en71 rfl (Encoded_calls n _ om) fun v w hv => ?_
   obtain ⟨rfl, hv⟩ := hv
   have hr := hr.grN hv
   have hG := hG.trans (hv.no _)
   refine pr 1 rfl<|nst<|rA rfl rfl ?_
   have hT : Sp.escape ⟨s, p0, b0, u0, ps⟩ = _ := Sp.escape_some (r3 := ⟨s, p4 + 1, b4, u4, ps⟩) hE om e4 (by simp [h3, e4, hb4, h6, h7, Rd.adv])
   rw [if_neg om] at hT
   rw [hT]
   dsimp only
   exact ⟨rfl, hr, hG⟩
  try simp only [Bool.not_eq_true', Bool.not_eq_false'] at h6
  refine ksq<|qr<|pr 1 rfl<|W.split (R.eqI rfl rfl) rfl rfl rfl (fun h12 => ?_) (fun h12 => ?_)
  ·refine pr 16 rfl<|ns<|cV rfl<|qr<|pr 2 rfl<|fA fo38_3 rfl<|sT sc4 hr rfl fun w hr hs => ?_
   have hr : RK g s p4 b4 true ps _ := hr
   have hG := hG.trans hs
   refine nsqr<|pr 1 rfl<|nsth<|rA rfl rfl ?_
   have hT : Sp.escape ⟨s, p0, b0, u0, ps⟩ = _ := Sp.escape_some (r3 := ⟨s, p4, b4, u4, ps⟩) hE om e4 (by simp [h3, e4, hb4, h6, h12, Rd.adv])
   rw [if_pos om] at hT
   rw [hT]
   dsimp only
   exact ⟨rfl, hr, hG⟩
  refine pr 2 rfl<|gg (R.eqI rfl rfl) rfl<|W.split (R.pickF rfl rfl) rfl rfl rfl (fun h13 => ?_) (fun h13 => ?_)
  ·refine pr 12 rfl<|ns<|cV rfl<|qr<|pr 2 rfl<|fA fo38_3 rfl<|sT sc4 hr rfl fun w hr hs => ?_
   have hr : RK g s p4 b4 true ps _ := hr
   have hG := hG.trans hs
   refine nsqr<|pr 1 rfl<|nsth<|rA rfl rfl ?_
   have hT : Sp.escape ⟨s, p0, b0, u0, ps⟩ = _ := Sp.escape_some (r3 := ⟨s, p4, b4, u4, ps⟩) hE om e4 (by simp [h3, e4, hb4, h6, h12, Rd.adv])
   rw [if_pos om] at hT
   rw [hT]
   dsimp only
   exact ⟨rfl, hr, hG⟩
  refine pr 2 rfl<|gg (R.gtI rfl rfl) rfl<|W.split (R.pickF rfl rfl) rfl rfl rfl (fun h14 => ?_) (fun h14 => ?_)
  ·refine pr 8 rfl<|ns<|cV rfl<|qr<|pr 2 rfl<|fA fo38_3 rfl<|sT sc4 hr rfl fun w hr hs => ?_
   have hr : RK g s p4 b4 true ps _ := hr
   have hG := hG.trans hs
   refine nsqr<|pr 1 rfl<|nsth<|rA rfl rfl ?_
   have hT : Sp.escape ⟨s, p0, b0, u0, ps⟩ = _ := Sp.escape_some (r3 := ⟨s, p4, b4, u4, ps⟩) hE om e4 (by simp [h3, e4, hb4, h6, h12, Rd.adv])
   rw [if_pos om] at hT
   rw [hT]
   dsimp only
   exact ⟨rfl, hr, hG⟩
  refine pr 2 rfl<|W.gsplit rfl (R.geI rfl rfl) rfl rfl rfl (fun h15 => ?_) (fun h15 => ?_)
  ·refine pr 2 rfl<|gg (R.ltI rfl rfl) rfl<|pr 2 rfl<|ns<|cD rfl (fun h16 => ?_) fun h16 => ?_
   ·refine qr<|pr 2 rfl<|fA fo38_3 rfl<|sT sc4 hr rfl fun w hr hs => ?_
    have hr : RK g s p4 b4 true ps _ := hr
    have hG := hG.trans hs
    refine nsqr<|pr 1 rfl<|nsth<|rA rfl rfl ?_
    have hT : Sp.escape ⟨s, p0, b0, u0, ps⟩ = _ := Sp.escape_some (r3 := ⟨s, p4, b4, u4, ps⟩) hE om e4 (by simp [h3, e4, hb4, h6, h12, Rd.adv])
    rw [if_pos om] at hT
    rw [hT]
    dsimp only
    exact ⟨rfl, hr, hG⟩
   refine ksqr<|pr 1 rfl<|eN en71 rfl (Encoded_calls n _ om) fun v w hv => ?_
   obtain ⟨rfl, hv⟩ := hv
   have hr := hr.grN hv
   have hG := hG.trans (hv.no _)
   refine pr 1 rfl<|nst<|rA rfl rfl ?_
   have hT : Sp.escape ⟨s, p0, b0, u0, ps⟩ = _ := Sp.escape_some (r3 := ⟨s, p4, b4, u4, ps⟩) hE om e4 (by simp [h3, e4, hb4, h6, h12, Rd.adv])
   rw [if_neg om] at hT
   rw [hT]
   dsimp only
   exact ⟨rfl, hr, hG⟩
  refine pr 5 rfl<|ns<|cF rfl<|ksqr<|pr 1 rfl<|eN en71 rfl (Encoded_calls n _ om) fun v w hv => ?_
  obtain ⟨rfl, hv⟩ := hv
  have hr := hr.grN hv
  have hG := hG.trans (hv.no _)
  refine pr 1 rfl<|nst<|rA rfl rfl ?_
  have hT : Sp.escape ⟨s, p0, b0, u0, ps⟩ = _ := Sp.escape_some (r3 := ⟨s, p4, b4, u4, ps⟩) hE om e4 (by simp [h3, e4, hb4, h6, h12, Rd.adv])
  rw [if_neg om] at hT
  rw [hT]
  dsimp only
  exact ⟨rfl, hr, hG⟩
 refine pr 6 rfl<|ns<|cF rfl<|ksq<|qr<|pr 1 rfl<|W.split (R.eqI rfl rfl) rfl rfl rfl (fun h17 => ?_) (fun h17 => ?_)
 ·refine pr 16 rfl<|ns<|cV rfl<|qr<|pr 2 rfl<|fA fo38_3 rfl<|sT sc4 hr rfl fun w hr hs => ?_
  have hr : RK g s p4 b4 true ps _ := hr
  have hG := hG.trans hs
  refine nsqr<|pr 1 rfl<|nsth<|rA rfl rfl ?_
  have hT : Sp.escape ⟨s, p0, b0, u0, ps⟩ = _ := Sp.escape_some (r3 := ⟨s, p4, b4, u4, ps⟩) hE om e4 (by simp [h3, e4, hb4, h17, Rd.adv])
  rw [if_pos om] at hT
  rw [hT]
  dsimp only
  exact ⟨rfl, hr, hG⟩
 refine pr 2 rfl<|gg (R.eqI rfl rfl) rfl<|W.split (R.pickF rfl rfl) rfl rfl rfl (fun h18 => ?_) (fun h18 => ?_)
 ·refine pr 12 rfl<|ns<|cV rfl<|qr<|pr 2 rfl<|fA fo38_3 rfl<|sT sc4 hr rfl fun w hr hs => ?_
  have hr : RK g s p4 b4 true ps _ := hr
  have hG := hG.trans hs
  refine nsqr<|pr 1 rfl<|nsth<|rA rfl rfl ?_
  have hT : Sp.escape ⟨s, p0, b0, u0, ps⟩ = _ := Sp.escape_some (r3 := ⟨s, p4, b4, u4, ps⟩) hE om e4 (by simp [h3, e4, hb4, h17, Rd.adv])
  rw [if_pos om] at hT
  rw [hT]
  dsimp only
  exact ⟨rfl, hr, hG⟩
 refine pr 2 rfl<|gg (R.gtI rfl rfl) rfl<|W.split (R.pickF rfl rfl) rfl rfl rfl (fun h19 => ?_) (fun h19 => ?_)
 ·refine pr 8 rfl<|ns<|cV rfl<|qr<|pr 2 rfl<|fA fo38_3 rfl<|sT sc4 hr rfl fun w hr hs => ?_
  have hr : RK g s p4 b4 true ps _ := hr
  have hG := hG.trans hs
  refine nsqr<|pr 1 rfl<|nsth<|rA rfl rfl ?_
  have hT : Sp.escape ⟨s, p0, b0, u0, ps⟩ = _ := Sp.escape_some (r3 := ⟨s, p4, b4, u4, ps⟩) hE om e4 (by simp [h3, e4, hb4, h17, Rd.adv])
  rw [if_pos om] at hT
  rw [hT]
  dsimp only
  exact ⟨rfl, hr, hG⟩
 refine pr 2 rfl<|W.gsplit rfl (R.geI rfl rfl) rfl rfl rfl (fun h20 => ?_) (fun h20 => ?_)
 ·refine pr 2 rfl<|gg (R.ltI rfl rfl) rfl<|pr 2 rfl<|ns<|cD rfl (fun h21 => ?_) fun h21 => ?_
  ·refine qr<|pr 2 rfl<|fA fo38_3 rfl<|sT sc4 hr rfl fun w hr hs => ?_
   have hr : RK g s p4 b4 true ps _ := hr
   have hG := hG.trans hs
   refine nsqr<|pr 1 rfl<|nsth<|rA rfl rfl ?_
   have hT : Sp.escape ⟨s, p0, b0, u0, ps⟩ = _ := Sp.escape_some (r3 := ⟨s, p4, b4, u4, ps⟩) hE om e4 (by simp [h3, e4, hb4, h17, Rd.adv])
   rw [if_pos om] at hT
   rw [hT]
   dsimp only
   exact ⟨rfl, hr, hG⟩
  refine ksqr<|pr 1 rfl<|eN en71 rfl (Encoded_calls n _ om) fun v w hv => ?_
  obtain ⟨rfl, hv⟩ := hv
  have hr := hr.grN hv
  have hG := hG.trans (hv.no _)
  refine pr 1 rfl<|nst<|rA rfl rfl ?_
  have hT : Sp.escape ⟨s, p0, b0, u0, ps⟩ = _ := Sp.escape_some (r3 := ⟨s, p4, b4, u4, ps⟩) hE om e4 (by simp [h3, e4, hb4, h17, Rd.adv])
  rw [if_neg om] at hT
  rw [hT]
  dsimp only
  exact ⟨rfl, hr, hG⟩
 refine pr 5 rfl<|ns<|cF rfl<|ksqr<|pr 1 rfl<|eN en71 rfl (Encoded_calls n _ om) fun v w hv => ?_
 obtain ⟨rfl, hv⟩ := hv
 have hr := hr.grN hv
 have hG := hG.trans (hv.no _)
 refine pr 1 rfl<|nst<|rA rfl rfl ?_
 have hT : Sp.escape ⟨s, p0, b0, u0, ps⟩ = _ := Sp.escape_some (r3 := ⟨s, p4, b4, u4, ps⟩) hE om e4 (by simp [h3, e4, hb4, h17, Rd.adv])
 rw [if_neg om] at hT
 rw [hT]
 dsimp only
 exact ⟨rfl, hr, hG⟩
theorem rest_calls (g : Nat) (s : List UInt8) (p0 : Nat) (b0 u0 ps : Bool) (w0 : World) (hr : RD g ⟨s, p0, b0, u0, ps⟩ w0) (hb : s.length ≤ 1000) (hp : p0 ≤ s.length + 1) :
 CR PR 42 [pP g] w0 fun v w' => v = str (Sp.rest ⟨s, p0, b0, u0, ps⟩).1 ∧ RD g (Sp.rest ⟨s, p0, b0, u0, ps⟩).2 w' ∧ Gr w0 w' (some g) := by
 have hr : RK g s p0 b0 u0 ps _ := hr
 have hG : Gr w0 w0 (some g) := Gr.refl _ _
 refine CR.of (n := 61) [(0, pP g)] Tryz.func42 rfl Tryz.ntmps42 rfl ⟨rfl, trivial⟩<|qr<|pr 1 rfl<|nsqr<|pr 1 rfl<|nsq<|rO<|sB [(0, pP g), (3, str [])] rfl<|C.loop (fun m l w' => ∃ (p : Nat) (b u : Bool) (out : List UInt8), l = [(0, pP g), (3, str out)] ∧ RD g ⟨s, p, b, u, ps⟩ w' ∧ Gr w0 w' (some g) ∧ Sp.restGo m out ⟨s, p, b, u, ps⟩ = Sp.restGo (s.length + 1) [] ⟨s, p0, b0, u0, ps⟩ ∧ s.length < p + m ∧ p ≤ s.length + 1 ∧ p0 ≤ p ∧ out.length ≤ 4 * p) (s.length + 1) (⟨p0, b0, u0, [], rfl, hr, hG, rfl, om, om, om, by simp⟩) ?_
 rintro m l w ⟨p, b, u, out, rfl, hr, hG, hE, hm, hpl, hpp, hol⟩
 have hr : RK g s p b u ps _ := hr
 refine rQ<|rQ<|dR<|prq 2 rfl<|fQ fo38_1 rfl<|lQ sc3 hr rfl rfl<|prq 2 rfl<|fQ fo38_0 rfl<|lQ sc9 hr rfl rfl<|qw (fun w hw => R.lenS rfl u9) rfl<|Wq.split (fun w hw => R.ltI rfl rfl) rfl rfl rfl (fun h1 => ?_) (fun h1 => ?_)
 ·try norm_cast at h1
  refine prq 3 rfl<|gw (fun w hw => R.fieldAddr fo38_2 rfl) rfl<|gw (fun w hw => R.load sc4 rfl (hr.grN hw) rfl) rfl<|prq 2 rfl<|Wq.nil fun w hw => ?_
  have hr := hr.grN hw
  have hG := hG.trans (hw.no _)
  refine rS<|cC rfl (fun h2 => ?_) (fun h2 => ?_)
  ·try simp only [Bool.not_eq_true', Bool.not_eq_false'] at h2
   subst h2
   have hr : RK g s p false u ps _ := hr
   refine ks<|rO<|rO<|qr<|pr 1 rfl<|eN en26 rfl (nx_calls g s p false u ps _ hr hb om) fun v w hv => ?_
   obtain ⟨rfl, hv⟩ := hv
   have hr := hr.grN hv
   have hG := hG.trans (hv.no _)
   have hnx := Sp.nx_lt s (p)
   refine eN en54 rfl (nameByte_calls _ _) fun v w hv => ?_
   obtain ⟨rfl, hv⟩ := hv
   have hr := hr.grN hv
   have hG := hG.trans (hv.no _)
   cases hb2 : Sp.nameByte (Sp.nx s (p))
   ·refine pr 1 rfl<|ns<|cF rfl<|qr<|pr 3 rfl<|fA fo38_1 rfl<|lD sc3 hr rfl rfl<|eN en41 rfl (escAt_calls g s p false u ps _ hr hb om _ om) fun v w hv => ?_
    obtain ⟨rfl, hv⟩ := hv
    have hr := hr.grN hv
    have hG := hG.trans (hv.no _)
    cases hb3 : Sp.escAt s p
    ·refine pr 1 rfl<|ns<|cF rfl<|qr<|pr 2 rfl<|nst<|rC<|rC<|rH<|rC<|rH<|rA rfl rfl ?_
     rw [Sp.restGo_no hb2 hb3] at hE
     rw [Sp.rest, ← hE]
     exact ⟨rfl, hr, hG⟩
    refine pr 1 rfl<|ns<|cV rfl<|rR<|pr 2 rfl<|eN en55 rfl (escape_calls g s p false u ps _ hr hb (by have := Sp.escAt_len ‹Sp.escAt s p = true›; omega)) fun v w hv => ?_
    obtain ⟨v5, p5, b5, u5, e5, hp5a, hp5b, hb5, hu5⟩ := Sp.Le.split (f := Sp.escape ⟨s, p, false, u, ps⟩) (Sp.escape_le ⟨s, p, false, u, ps⟩ (by have := Sp.escAt_len ‹Sp.escAt s p = true›; simp only; omega)).1
    have hx := (Sp.escape_le ⟨s, p, false, u, ps⟩ (by have := Sp.escAt_len ‹Sp.escAt s p = true›; simp only; omega)).2
    rw [e5] at hx
    simp only at hx
    obtain ⟨hv1, hr, hv⟩ := hv
    rw [e5] at hv1 hr
    have hv1 : v = str v5 := hv1
    subst hv1
    have hr : RD g ⟨s, p5, b5, u5, ps⟩ w := hr
    have hG := hG.trans hv
    have hr : RK g s p5 b5 u5 ps _ := hr
    refine aS rfl rfl<|pr 1 rfl<|nB<|rB ?_
    obtain ⟨m, rfl⟩ := sU m
    have hlt : p < s.length := by assumption
    rw [Sp.restGo_esc hlt hb2 hb3 e5] at hE
    have hl : (out ++ v5).length ≤ 4 * p5 := by simp only [List.length_append]; omega
    exact cT [(0, pP g), (3, str (out ++ v5))] rfl ⟨m, om, p5, _, _, _, rfl, hr, hG, hE, om, om, om, hl⟩
   refine pr 1 rfl<|ns<|cV rfl<|rQ<|dR<|prq 3 rfl<|fQ fo38_0 rfl<|lQ sc9 hr rfl rfl<|prq 2 rfl<|fQ fo38_1 rfl<|lQ sc3 hr rfl rfl<|prq 2 rfl<|fQ fo38_1 rfl<|lQ sc3 hr rfl rfl<|qw (fun w hw => R.addK 1 rfl rfl om) rfl<|qw (fun w hw => R.sliceS rfl rfl rfl rfl rfl om om u9) rfl<|qw (fun w hw => R.addS rfl rfl al) rfl<|prq 1 rfl<|Wq.nil fun w hw => ?_
   have hr := hr.grN hw
   have hG := hG.trans (hw.no _)
   refine rS<|rR<|pr 2 rfl<|fA fo38_1 rfl<|lD sc3 hr rfl rfl<|aK rfl rfl<|pr 1 rfl<|fA fo38_1 rfl<|sT sc3 hr rfl fun w hr hs => ?_
   have hr : RK g s (p + 1) false u ps _ := hr
   have hG := hG.trans hs
   refine nB<|rB ?_
   obtain ⟨m, rfl⟩ := sU m
   have hlt : p < s.length := by assumption
   rw [Sp.restGo_name hlt hb2] at hE
   have e1 : (s.drop p).take (p + 1 - p) = (s.drop p).take 1 := by rw [Nat.add_sub_cancel_left]
   rw [e1]
   have hl : (out ++ (s.drop p).take 1).length ≤ 4 * (p + 1) := by simp only [List.length_append, List.length_take]; omega
   exact cT [(0, pP g), (3, str (out ++ (s.drop p).take 1))] rfl ⟨m, om, p + 1, _, _, _, rfl, hr, hG, hE, om, om, om, hl⟩
  try simp only [Bool.not_eq_true', Bool.not_eq_false'] at h2
  subst h2
  have hr : RK g s p true u ps _ := hr
  refine rE<|rX<|rX<|rY<|sqr<|pr 2 rfl<|nst<|rA rfl rfl ?_
  rw [Sp.restGo_end (by intro hq; first | (exact absurd hq.2 dC) | (have := hq.1; omega))] at hE
  rw [Sp.rest, ← hE]
  exact ⟨rfl, hr, hG⟩
 try norm_cast at h1
 refine prq 7 rfl<|Wq.nil fun w hw => ?_
 have hr := hr.grN hw
 have hG := hG.trans (hw.no _)
 refine rS<|cF rfl<|rE<|rX<|rX<|rY<|sqr<|pr 2 rfl<|nst<|rA rfl rfl ?_
 rw [Sp.restGo_end (by intro hq; first | (exact absurd hq.2 dC) | (have := hq.1; omega))] at hE
 rw [Sp.rest, ← hE]
 exact ⟨rfl, hr, hG⟩
theorem quoted_calls (g : Nat) (s : List UInt8) (p0 : Nat) (b0 u0 ps : Bool) (w0 : World) (hr : RD g ⟨s, p0, b0, u0, ps⟩ w0) (hb : s.length ≤ 1000) (hp : p0 < s.length) :
 CR PR 72 [pP g] w0 fun v w' => v = str (Sp.quoted ⟨s, p0, b0, u0, ps⟩).1 ∧ RD g (Sp.quoted ⟨s, p0, b0, u0, ps⟩).2 w' ∧ Gr w0 w' (some g) := by
 have hr : RK g s p0 b0 u0 ps _ := hr
 have hG : Gr w0 w0 (some g) := Gr.refl _ _
 refine CR.of (n := 110) [(0, pP g)] Tryz.func72 rfl Tryz.ntmps72 rfl ⟨rfl, trivial⟩<|qr<|pr 1 rfl<|nsqr<|pr 1 rfl<|eN en26 rfl (nx_calls g s p0 b0 u0 ps _ hr hb om) fun v w hv => ?_
 obtain ⟨rfl, hv⟩ := hv
 have hr := hr.grN hv
 have hG := hG.trans (hv.no _)
 have hnx := Sp.nx_lt s (p0)
 refine pr 1 rfl<|nsqr<|pr 2 rfl<|fA fo38_1 rfl<|lD sc3 hr rfl rfl<|aK rfl rfl<|pr 1 rfl<|fA fo38_1 rfl<|sT sc3 hr rfl fun w hr hs => ?_
 have hr : RK g s (p0 + 1) b0 u0 ps _ := hr
 have hG := hG.trans hs
 refine nsqr<|pr 1 rfl<|nsq<|rO<|sB [(0, pP g), (3, .int .u8 (Sp.nx s p0 : Int)), (4, str [])] rfl<|C.loop (fun m l w' => ∃ (p : Nat) (b u : Bool) (out : List UInt8), l = [(0, pP g), (3, .int .u8 (Sp.nx s p0 : Int)), (4, str out)] ∧ RD g ⟨s, p, b, u, ps⟩ w' ∧ Gr w0 w' (some g) ∧ Sp.quotedGo (Sp.nx s p0) m out ⟨s, p, b, u, ps⟩ = Sp.quotedGo (Sp.nx s p0) (s.length + 2) [] ⟨s, p0 + 1, b0, u0, ps⟩ ∧ s.length < p + m ∧ p ≤ s.length + 1 ∧ p0 ≤ p ∧ out.length ≤ 4 * p) (s.length + 2) (⟨p0 + 1, b0, u0, [], rfl, hr, hG, rfl, om, om, om, by simp⟩) ?_
 rintro m l w ⟨p, b, u, out, rfl, hr, hG, hE, hm, hpl, hpp, hol⟩
 have hr : RK g s p b u ps _ := hr
 refine rQ<|rQ<|dR<|prq 2 rfl<|fQ fo38_1 rfl<|lQ sc3 hr rfl rfl<|prq 2 rfl<|fQ fo38_0 rfl<|lQ sc9 hr rfl rfl<|qw (fun w hw => R.lenS rfl u9) rfl<|qw (fun w hw => R.ltI rfl rfl) rfl<|Wq.nil fun w hw => ?_
 have hr := hr.grN hw
 have hG := hG.trans (hw.no _)
 refine rS<|cD rfl (fun h1 => ?_) fun h1 => ?_
 ·refine ks<|rO<|qr<|pr 1 rfl<|eN en26 rfl (nx_calls g s p b u ps _ hr hb om) fun v w hv => ?_
  obtain ⟨rfl, hv⟩ := hv
  have hr := hr.grN hv
  have hG := hG.trans (hv.no _)
  have hnx := Sp.nx_lt s (p)
  refine pr 1 rfl<|ns<|rO<|qr<|pr 2 rfl<|qq (R.eqI rfl rfl) rfl<|pr 1 rfl<|ns<|cD rfl (fun h2 => ?_) fun h2 => ?_
  ·refine qr<|pr 2 rfl<|fA fo38_1 rfl<|lD sc3 hr rfl rfl<|aK rfl rfl<|pr 1 rfl<|fA fo38_1 rfl<|sT sc3 hr rfl fun w hr hs => ?_
   have hr : RK g s (p + 1) b u ps _ := hr
   have hG := hG.trans hs
   refine nsqr<|pr 2 rfl<|nst<|rC<|rC<|rH<|rC<|rH<|rA rfl rfl ?_
   obtain ⟨m, rfl⟩ := sU m
   rw [Sp.quotedGo_close om om] at hE
   rw [Sp.quoted, Sp.next_mk]
   exact ⟨congrArg str (congrArg Prod.fst hE), hr.cast (congrArg (fun x : List UInt8 × Rd => Rd.cells x.2) hE), hG⟩
  refine qr<|pr 1 rfl<|W.split (R.eqI rfl rfl) rfl rfl rfl (fun h3 => ?_) (fun h3 => ?_)
  ·refine pr 9 rfl<|ns<|cV rfl<|qr<|pr 2 rfl<|fA fo38_2 rfl<|sT sc4 hr rfl fun w hr hs => ?_
   have hr : RK g s p true u ps _ := hr
   have hG := hG.trans hs
   refine nsqr<|pr 1 rfl<|nst<|rC<|rC<|rH<|rC<|rH<|rA rfl rfl ?_
   obtain ⟨m, rfl⟩ := sU m
   rw [Sp.quotedGo_nl om om om] at hE
   rw [Sp.quoted, Sp.next_mk]
   exact ⟨congrArg str (congrArg Prod.fst hE), hr.cast (congrArg (fun x : List UInt8 × Rd => Rd.cells x.2) hE), hG⟩
  refine pr 2 rfl<|gg (R.eqI rfl rfl) rfl<|W.split (R.pickF rfl rfl) rfl rfl rfl (fun h4 => ?_) (fun h4 => ?_)
  ·refine pr 5 rfl<|ns<|cV rfl<|qr<|pr 2 rfl<|fA fo38_2 rfl<|sT sc4 hr rfl fun w hr hs => ?_
   have hr : RK g s p true u ps _ := hr
   have hG := hG.trans hs
   refine nsqr<|pr 1 rfl<|nst<|rC<|rC<|rH<|rC<|rH<|rA rfl rfl ?_
   obtain ⟨m, rfl⟩ := sU m
   rw [Sp.quotedGo_nl om om om] at hE
   rw [Sp.quoted, Sp.next_mk]
   exact ⟨congrArg str (congrArg Prod.fst hE), hr.cast (congrArg (fun x : List UInt8 × Rd => Rd.cells x.2) hE), hG⟩
  refine pr 2 rfl<|gg (R.eqI rfl rfl) rfl<|pr 2 rfl<|ns<|cD rfl (fun h5 => ?_) fun h5 => ?_
  ·refine qr<|pr 2 rfl<|fA fo38_2 rfl<|sT sc4 hr rfl fun w hr hs => ?_
   have hr : RK g s p true u ps _ := hr
   have hG := hG.trans hs
   refine nsqr<|pr 1 rfl<|nst<|rC<|rC<|rH<|rC<|rH<|rA rfl rfl ?_
   obtain ⟨m, rfl⟩ := sU m
   rw [Sp.quotedGo_nl om om om] at hE
   rw [Sp.quoted, Sp.next_mk]
   exact ⟨congrArg str (congrArg Prod.fst hE), hr.cast (congrArg (fun x : List UInt8 × Rd => Rd.cells x.2) hE), hG⟩
  refine qr<|pr 1 rfl<|qq (R.neI rfl rfl) rfl<|pr 1 rfl<|ns<|cD rfl (fun h6 => ?_) fun h6 => ?_
  ·refine rQ<|dR<|prq 3 rfl<|fQ fo38_0 rfl<|lQ sc9 hr rfl rfl<|prq 2 rfl<|fQ fo38_1 rfl<|lQ sc3 hr rfl rfl<|prq 2 rfl<|fQ fo38_1 rfl<|lQ sc3 hr rfl rfl<|qw (fun w hw => R.addK 1 rfl rfl om) rfl<|qw (fun w hw => R.sliceS rfl rfl rfl rfl rfl om om u9) rfl<|qw (fun w hw => R.addS rfl rfl al) rfl<|prq 1 rfl<|Wq.nil fun w hw => ?_
   have hr := hr.grN hw
   have hG := hG.trans (hw.no _)
   refine rS<|rR<|pr 2 rfl<|fA fo38_1 rfl<|lD sc3 hr rfl rfl<|aK rfl rfl<|pr 1 rfl<|fA fo38_1 rfl<|sT sc3 hr rfl fun w hr hs => ?_
   have hr : RK g s (p + 1) b u ps _ := hr
   have hG := hG.trans hs
   refine nB<|rB ?_
   obtain ⟨m, rfl⟩ := sU m
   rw [Sp.quotedGo_char om om om om] at hE
   have e1 : (s.drop p).take (p + 1 - p) = (s.drop p).take 1 := by rw [Nat.add_sub_cancel_left]
   rw [e1]
   have hl : (out ++ (s.drop p).take 1).length ≤ 4 * (p + 1) := by simp only [List.length_append, List.length_take]; omega
   exact cT [(0, pP g), (3, .int .u8 (Sp.nx s p0 : Int)), (4, str (out ++ (s.drop p).take 1))] rfl ⟨m, om, p + 1, _, _, _, rfl, hr, hG, hE, om, om, om, hl⟩
  refine qr<|pr 3 rfl<|fA fo38_1 rfl<|lD sc3 hr rfl rfl<|eN en41 rfl (escAt_calls g s p b u ps _ hr hb om _ om) fun v w hv => ?_
  obtain ⟨rfl, hv⟩ := hv
  have hr := hr.grN hv
  have hG := hG.trans (hv.no _)
  cases hb6 : Sp.escAt s p
  ·refine pr 1 rfl<|ns<|cF rfl<|qr<|pr 2 rfl<|fA fo38_1 rfl<|lD sc3 hr rfl rfl<|aK rfl rfl<|pr 1 rfl<|fA fo38_1 rfl<|sT sc3 hr rfl fun w hr hs => ?_
   have hr : RK g s (p + 1) b u ps _ := hr
   have hG := hG.trans hs
   refine nsqr<|pr 1 rfl<|eN en18 rfl (taken_calls g ⟨s, p + 1, b, u, ps⟩ _ hr hb sO [13, 10] dC) fun v w hv => ?_
   obtain ⟨v8, p8, b8, u8, e8, hp8a, hp8b, hb8, hu8, rfl, hr, hv⟩ := spl (Sp.taken_le ⟨s, p + 1, b, u, ps⟩ [13, 10] okk) hv
   have hG := hG.trans hv
   refine pr 1 rfl<|ns<|cC rfl (fun h9 => ?_) (fun h9 => ?_)
   ·try simp only [Bool.not_eq_true', Bool.not_eq_false'] at h9
    subst h9
    have hr : RK g s p8 b8 u8 ps _ := hr
    have hno := Sp.taken_no ‹Sp.taken _ _ = (false, _)›
    have hnp : _ = p + 1 := congrArg Rd.pos hno
    simp only at hnp
    refine rR<|pr 2 rfl<|fA fo38_1 rfl<|lD sc3 hr rfl rfl<|aK rfl rfl<|pr 1 rfl<|fA fo38_1 rfl<|sT sc3 hr rfl fun w hr hs => ?_
    have hr : RK g s (p8 + 1) b8 u8 ps _ := hr
    have hG := hG.trans hs
    refine nB<|rB ?_
    obtain ⟨m, rfl⟩ := sU m
    rw [Sp.quotedGo_skip om om om om hb6 e8] at hE
    rw [if_neg dC] at hE
    have hl : out.length ≤ 4 * (p8 + 1) := by omega
    exact cT [(0, pP g), (3, .int .u8 (Sp.nx s p0 : Int)), (4, str out)] rfl ⟨m, om, p8 + 1, _, _, _, rfl, hr, hG, hE, om, om, om, hl⟩
   try simp only [Bool.not_eq_true', Bool.not_eq_false'] at h9
   subst h9
   have hr : RK g s p8 b8 u8 ps _ := hr
   refine rK<|rB<|rB ?_
   obtain ⟨m, rfl⟩ := sU m
   rw [Sp.quotedGo_skip om om om om hb6 e8] at hE
   rw [if_pos rfl] at hE
   have hl : out.length ≤ 4 * (p8) := by omega
   exact cT [(0, pP g), (3, .int .u8 (Sp.nx s p0 : Int)), (4, str out)] rfl ⟨m, om, p8, _, _, _, rfl, hr, hG, hE, om, om, om, hl⟩
  refine pr 1 rfl<|ns<|cV rfl<|rR<|pr 2 rfl<|eN en55 rfl (escape_calls g s p b u ps _ hr hb (by have := Sp.escAt_len ‹Sp.escAt s p = true›; omega)) fun v w hv => ?_
  obtain ⟨v10, p10, b10, u10, e10, hp10a, hp10b, hb10, hu10⟩ := Sp.Le.split (f := Sp.escape ⟨s, p, b, u, ps⟩) (Sp.escape_le ⟨s, p, b, u, ps⟩ (by have := Sp.escAt_len ‹Sp.escAt s p = true›; simp only; omega)).1
  have hx := (Sp.escape_le ⟨s, p, b, u, ps⟩ (by have := Sp.escAt_len ‹Sp.escAt s p = true›; simp only; omega)).2
  rw [e10] at hx
  simp only at hx
  obtain ⟨hv1, hr, hv⟩ := hv
  rw [e10] at hv1 hr
  have hv1 : v = str v10 := hv1
  subst hv1
  have hr : RD g ⟨s, p10, b10, u10, ps⟩ w := hr
  have hG := hG.trans hv
  have hr : RK g s p10 b10 u10 ps _ := hr
  refine aS rfl rfl<|pr 1 rfl<|nB<|rB ?_
  obtain ⟨m, rfl⟩ := sU m
  rw [Sp.quotedGo_esc om om om om hb6 e10] at hE
  have hl : (out ++ v10).length ≤ 4 * p10 := by simp only [List.length_append]; omega
  exact cT [(0, pP g), (3, .int .u8 (Sp.nx s p0 : Int)), (4, str (out ++ v10))] rfl ⟨m, om, p10, _, _, _, rfl, hr, hG, hE, om, om, om, hl⟩
 refine rE<|rX<|rX<|rY<|sqr<|pr 2 rfl<|fA fo38_2 rfl<|sT sc4 hr rfl fun w hr hs => ?_
 have hr : RK g s p true u ps _ := hr
 have hG := hG.trans hs
 refine nsqr<|pr 1 rfl<|nst<|rA rfl rfl ?_
 rw [Sp.quotedGo_out om] at hE
 rw [Sp.quoted, Sp.next_mk]
 exact ⟨congrArg str (congrArg Prod.fst hE), hr.cast (congrArg (fun x : List UInt8 × Rd => Rd.cells x.2) hE), hG⟩
theorem lower_calls (s : List UInt8) (w0 : World) (hs0 : s.length ≤ 100000) :
 CR PR 35 [str s] w0 fun v w' => v = str (Sp.lower s) ∧ Gr w0 w' none := by
 have hG : Gr w0 w0 none := Gr.refl _ _
 refine CR.of (n := 33) [(0, str s)] Tryz.func35 rfl Tryz.ntmps35 rfl ⟨rfl, trivial⟩<|qr<|pr 1 rfl<|nsqr<|pr 1 rfl<|W.toBytes rfl u9 u83 u5 rfl rfl fun w b cap hbz hB hv => ?_
 have hG := hG.trans (hv.no _)
 refine pr 1 rfl<|nsq<|qr<|pr 1 rfl<|ns<|rO<|sB [(3, .slice (some ⟨b, 0, none⟩) s.length cap), (4, .int .i64 ((0 : Nat) : Int))] rfl<|C.loop (fun m l w' => ∃ i : Nat, l = [(3, .slice (some ⟨b, 0, none⟩) s.length cap), (4, .int .i64 (i : Int))] ∧ BB w' b (Sp.lowerAt s i) ∧ Gr w0 w' none ∧ i ≤ s.length ∧ s.length = i + m) (s.length) (⟨0, rfl, by simpa [Sp.lowerAt] using hB, hG, om, om⟩) ?_
 rintro m l w ⟨i, rfl, hB, hG, hi, hm⟩
 have hlen := Sp.lowerAt_length s i
 refine qqr<|pr 2 rfl<|qq (R.lenL rfl slq83) rfl<|qq (R.ltI rfl rfl) rfl<|ns<|cD rfl (fun h1 => ?_) fun h1 => ?_
 ·refine ksq<|rO<|qr<|pr 2 rfl<|qq (R.idxB rfl rfl _ rfl (by first | omega | (simp; omega)) sl83) rfl<|qq (R.loadB sc5 rfl hB (by first | omega | (simp; omega))) rfl<|W.split (R.geI rfl rfl) rfl rfl rfl (fun h2 => ?_) (fun h2 => ?_)
  ·refine pr 3 rfl<|gg (R.idxB rfl rfl _ rfl (by first | omega | (simp; omega)) sl83) rfl<|gg (R.loadB sc5 rfl hB (by first | omega | (simp; omega))) rfl<|gg (R.leI rfl rfl) rfl<|pr 1 rfl<|ns<|cD rfl (fun h3 => ?_) fun h3 => ?_
   ·refine rR<|pr 2 rfl<|qq (R.idxB rfl rfl _ rfl (by first | omega | (simp; omega)) sl83) rfl<|qq (R.loadB sc5 rfl hB (by first | omega | (simp; omega))) rfl<|qq (R.addB 32 rfl rfl om) rfl<|qq (R.idxB rfl rfl _ rfl (by first | omega | (simp; omega)) sl83) rfl<|W.storeB rfl rfl om sc5 hB (by first | omega | (simp; omega)) fun w hB hs => ?_
    have hG := hG.fresh hs om
    refine nbs<|rR<|pr 1 rfl<|aK rfl rfl<|pr 1 rfl<|rN ?_
    obtain ⟨m, rfl⟩ := sU m
    have hB2 : BB w b (Sp.lowerAt s (i + 1)) := by rw [← Sp.lowerAt_yes s i om (by rw [← Sp.lowerAt_byte s i om]; omega) (by rw [← Sp.lowerAt_byte s i om]; omega), ← Sp.lowerAt_byte s i om]; exact hB
    exact cT [(3, .slice (some ⟨b, 0, none⟩) s.length cap), (4, .int .i64 ((i + 1 : Nat) : Int))] rfl ⟨m, om, i + 1, rfl, hB2, hG, om, om⟩
   refine rK<|bS<|rR<|pr 1 rfl<|aK rfl rfl<|pr 1 rfl<|rN ?_
   obtain ⟨m, rfl⟩ := sU m
   have hB2 : BB w b (Sp.lowerAt s (i + 1)) := by rw [Sp.lowerAt_no s i om (by rw [← Sp.lowerAt_byte s i om]; omega)]; exact hB
   exact cT [(3, .slice (some ⟨b, 0, none⟩) s.length cap), (4, .int .i64 ((i + 1 : Nat) : Int))] rfl ⟨m, om, i + 1, rfl, hB2, hG, om, om⟩
  refine pr 7 rfl<|ns<|cF rfl<|rK<|bS<|rR<|pr 1 rfl<|aK rfl rfl<|pr 1 rfl<|rN ?_
  obtain ⟨m, rfl⟩ := sU m
  have hB2 : BB w b (Sp.lowerAt s (i + 1)) := by rw [Sp.lowerAt_no s i om (by rw [← Sp.lowerAt_byte s i om]; omega)]; exact hB
  exact cT [(3, .slice (some ⟨b, 0, none⟩) s.length cap), (4, .int .i64 ((i + 1 : Nat) : Int))] rfl ⟨m, om, i + 1, rfl, hB2, hG, om, om⟩
 refine rE<|rX<|rX<|rY<|sqr<|pr 1 rfl<|qq (R.ofBytes rfl u83 u5 u9 hB (by first | omega | (simp; omega))) rfl<|pr 1 rfl<|nst<|rA rfl rfl ⟨?_, hG⟩
 rw [Sp.lowerAt_end s i om]
theorem name_calls (g : Nat) (s : List UInt8) (p0 : Nat) (b0 u0 ps : Bool) (w0 : World) (hr : RD g ⟨s, p0, b0, u0, ps⟩ w0) (hb : s.length ≤ 1000) (hp : p0 ≤ s.length + 1) :
 CR PR 36 [pP g] w0 fun v w' => v = str (Sp.name ⟨s, p0, b0, u0, ps⟩).1 ∧ RD g (Sp.name ⟨s, p0, b0, u0, ps⟩).2 w' ∧ Gr w0 w' (some g) := by
 have hG : Gr w0 w0 (some g) := Gr.refl _ _
 refine CR.of (n := 11) [(0, pP g)] Tryz.func36 rfl Tryz.ntmps36 rfl ⟨rfl, trivial⟩<|qr<|pr 1 rfl<|nsq<|qr<|pr 1 rfl<|eN en34 rfl (nameFollows_calls g ⟨s, p0, b0, u0, ps⟩ _ hr hb sO) fun v w hv => ?_
 obtain ⟨v1, p1, b1, u1, e1, hp1a, hp1b, hb1, hu1, rfl, hr, hv⟩ := spl (Sp.nameFollows_le ⟨s, p0, b0, u0, ps⟩ okk) hv
 have hG := hG.trans hv
 refine pr 1 rfl<|ns<|cC rfl (fun h2 => ?_) (fun h2 => ?_)
 ·try simp only [Bool.not_eq_true', Bool.not_eq_false'] at h2
  subst h2
  have hr : RK g s p1 b1 u1 ps _ := hr
  refine qr<|pr 2 rfl<|fA fo38_2 rfl<|sT sc4 hr rfl fun w hr hs => ?_
  have hr : RK g s p1 true u1 ps _ := hr
  have hG := hG.trans hs
  refine nsqr<|pr 1 rfl<|nsth<|rA rfl rfl ?_
  have E : Sp.name ⟨s, p0, b0, u0, ps⟩ = ([], ⟨s, p1, true, u1, ps⟩) := by simp [Sp.name, Rd.refuse, Rd.unsure, Rd.adv, Rd.orUns, Rd.orBad, e1]
  rw [E]
  exact ⟨rfl, hr, hG⟩
 try simp only [Bool.not_eq_true', Bool.not_eq_false'] at h2
 subst h2
 have hr : RK g s p1 b1 u1 ps _ := hr
 refine ksqr<|pr 1 rfl<|eN en42 rfl (rest_calls g s p1 b1 u1 ps _ hr hb om) fun v w hv => ?_
 obtain ⟨v3, p3, b3, u3, e3, hp3a, hp3b, hb3, hu3, hl3, rfl, hr, hv⟩ := spl2 (Sp.rest_le ⟨s, p1, b1, u1, ps⟩ okk) hv
 have hG := hG.trans hv
 refine pr 1 rfl<|nst<|rA rfl rfl ?_
 have E : Sp.name ⟨s, p0, b0, u0, ps⟩ = (v3, ⟨s, p3, b3, u3, ps⟩) := by simp [Sp.name, Rd.refuse, Rd.unsure, Rd.adv, Rd.orUns, Rd.orBad, e1, e3]
 rw [E]
 exact ⟨rfl, hr, hG⟩
theorem hash_calls (g : Nat) (s : List UInt8) (p0 : Nat) (b0 u0 ps : Bool) (w0 : World) (hr : RD g ⟨s, p0, b0, u0, ps⟩ w0) (hb : s.length ≤ 1000) (hp : p0 ≤ s.length + 1) :
 CR PR 43 [pP g] w0 fun v w' => v = str (Sp.hash ⟨s, p0, b0, u0, ps⟩).1 ∧ RD g (Sp.hash ⟨s, p0, b0, u0, ps⟩).2 w' ∧ Gr w0 w' (some g) := by
 have hG : Gr w0 w0 (some g) := Gr.refl _ _
 refine CR.of (n := 37) [(0, pP g)] Tryz.func43 rfl Tryz.ntmps43 rfl ⟨rfl, trivial⟩<|qr<|pr 1 rfl<|nsq<|qr<|pr 1 rfl<|eN en34 rfl (nameFollows_calls g ⟨s, p0, b0, u0, ps⟩ _ hr hb sO) fun v w hv => ?_
 obtain ⟨v1, p1, b1, u1, e1, hp1a, hp1b, hb1, hu1, rfl, hr, hv⟩ := spl (Sp.nameFollows_le ⟨s, p0, b0, u0, ps⟩ okk) hv
 have hG := hG.trans hv
 refine pr 1 rfl<|ns<|cC rfl (fun h2 => ?_) (fun h2 => ?_)
 ·try simp only [Bool.not_eq_true', Bool.not_eq_false'] at h2
  subst h2
  have hr : RK g s p1 b1 u1 ps _ := hr
  refine qr<|pr 3 rfl<|fA fo38_3 rfl<|W.splitB (R.load sc4 rfl hr rfl) rfl rfl rfl (fun h3 => ?_) (fun h3 => ?_)
  ·subst h3
   have hr : RK g s p1 b1 true ps _ := hr
   refine pr 6 rfl<|fA fo38_3 rfl<|sT sc4 hr rfl fun w hr hs => ?_
   have hr : RK g s p1 b1 true ps _ := hr
   have hG := hG.trans hs
   refine nsr<|pr 3 rfl<|fA fo38_2 rfl<|W.splitB (R.load sc4 rfl hr rfl) rfl rfl rfl (fun h4 => ?_) (fun h4 => ?_)
   ·subst h4
    have hr : RK g s p1 true true ps _ := hr
    refine pr 7 rfl<|fA fo38_2 rfl<|sT sc4 hr rfl fun w hr hs => ?_
    have hr : RK g s p1 true true ps _ := hr
    have hG := hG.trans hs
    refine nsq<|qr<|pr 2 rfl<|fA fo38_2 rfl<|lD sc4 hr rfl rfl<|ns<|cV rfl<|qr<|pr 1 rfl<|nsth<|rA rfl rfl ?_
    have E : Sp.hash ⟨s, p0, b0, u0, ps⟩ = ([], ⟨s, p1, true, true, ps⟩) := by simp [Sp.hash, Rd.refuse, Rd.unsure, Rd.adv, Rd.orUns, Rd.orBad, e1]
    rw [E]
    exact ⟨rfl, hr, hG⟩
   subst h4
   have hr : RK g s p1 false true ps _ := hr
   refine pr 2 rfl<|gN rfl en26 rfl (nx_calls g s p1 false true ps _ hr hb om) fun v w hv => ?_
   obtain ⟨rfl, hv⟩ := hv
   have hr := hr.grN hv
   have hG := hG.trans (hv.no _)
   have hnx := Sp.nx_lt s (p1)
   refine gN rfl en54 rfl (nameByte_calls _ _) fun v w hv => ?_
   obtain ⟨rfl, hv⟩ := hv
   have hr := hr.grN hv
   have hG := hG.trans (hv.no _)
   refine pr 3 rfl<|fA fo38_2 rfl<|sT sc4 hr rfl fun w hr hs => ?_
   have hr : Blk _ g 38 [str s, .int .i64 ((p1 : Nat) : Int), .bool (!(Sp.nameByte (Sp.nx s (p1)))), .bool true, .bool ps] := hr
   have hG := hG.trans hs
   refine nsq<|qr<|pr 2 rfl<|fA fo38_2 rfl<|lD sc4 hr rfl rfl<|ns<|cC rfl (fun h5 => ?_) (fun h5 => ?_)
   ·try simp only [Bool.not_eq_true', Bool.not_eq_false'] at h5
    have hr : Blk w g 38 [str s, .int .i64 ((p1 : Nat) : Int), .bool true, .bool true, .bool ps] := by simpa [h5] using hr
    refine qr<|pr 1 rfl<|nsth<|rA rfl rfl ?_
    have E : Sp.hash ⟨s, p0, b0, u0, ps⟩ = ([], ⟨s, p1, true, true, ps⟩) := by simp [Sp.hash, Rd.refuse, Rd.unsure, Rd.adv, Rd.orUns, Rd.orBad, e1, h5]
    rw [E]
    exact ⟨rfl, hr, hG⟩
   try simp only [Bool.not_eq_true', Bool.not_eq_false'] at h5
   have hr : Blk w g 38 [str s, .int .i64 ((p1 : Nat) : Int), .bool false, .bool true, .bool ps] := by simpa [h5] using hr
   refine ksqr<|pr 1 rfl<|eN en42 rfl (rest_calls g s p1 false true ps _ hr hb om) fun v w hv => ?_
   obtain ⟨v6, p6, b6, u6, e6, hp6a, hp6b, hb6, hu6, hl6, rfl, hr, hv⟩ := spl2 (Sp.rest_le ⟨s, p1, false, true, ps⟩ okk) hv
   have hG := hG.trans hv
   refine pr 1 rfl<|nst<|rA rfl rfl ?_
   have E : Sp.hash ⟨s, p0, b0, u0, ps⟩ = (v6, ⟨s, p6, b6, u6, ps⟩) := by simp [Sp.hash, Rd.refuse, Rd.unsure, Rd.adv, Rd.orUns, Rd.orBad, e1, h5, e6]
   rw [E]
   exact ⟨rfl, hr, hG⟩
  subst h3
  have hr : RK g s p1 b1 false ps _ := hr
  refine pr 2 rfl<|gN rfl en26 rfl (nx_calls g s p1 b1 false ps _ hr hb om) fun v w hv => ?_
  obtain ⟨rfl, hv⟩ := hv
  have hr := hr.grN hv
  have hG := hG.trans (hv.no _)
  have hnx := Sp.nx_lt s (p1)
  refine gN rfl en54 rfl (nameByte_calls _ _) fun v w hv => ?_
  obtain ⟨rfl, hv⟩ := hv
  have hr := hr.grN hv
  have hG := hG.trans (hv.no _)
  refine pr 2 rfl<|fA fo38_3 rfl<|sT sc4 hr rfl fun w hr hs => ?_
  have hr : Blk _ g 38 [str s, .int .i64 ((p1 : Nat) : Int), .bool b1, .bool ((Sp.nameByte (Sp.nx s (p1)))), .bool ps] := hr
  have hG := hG.trans hs
  refine nsr<|pr 3 rfl<|fA fo38_2 rfl<|W.splitB (R.load sc4 rfl hr rfl) rfl rfl rfl (fun h7 => ?_) (fun h7 => ?_)
  ·subst h7
   have hr : Blk _ g 38 [str s, .int .i64 ((p1 : Nat) : Int), .bool true, .bool ((Sp.nameByte (Sp.nx s (p1)))), .bool ps] := hr
   refine pr 7 rfl<|fA fo38_2 rfl<|sT sc4 hr rfl fun w hr hs => ?_
   have hr : Blk _ g 38 [str s, .int .i64 ((p1 : Nat) : Int), .bool true, .bool ((Sp.nameByte (Sp.nx s (p1)))), .bool ps] := hr
   have hG := hG.trans hs
   refine nsq<|qr<|pr 2 rfl<|fA fo38_2 rfl<|lD sc4 hr rfl rfl<|ns<|cV rfl<|qr<|pr 1 rfl<|nsth<|rA rfl rfl ?_
   have E : Sp.hash ⟨s, p0, b0, u0, ps⟩ = ([], ⟨s, p1, true, (Sp.nameByte (Sp.nx s (p1))), ps⟩) := by simp [Sp.hash, Rd.refuse, Rd.unsure, Rd.adv, Rd.orUns, Rd.orBad, e1]
   rw [E]
   exact ⟨rfl, hr, hG⟩
  subst h7
  have hr : Blk _ g 38 [str s, .int .i64 ((p1 : Nat) : Int), .bool false, .bool ((Sp.nameByte (Sp.nx s (p1)))), .bool ps] := hr
  refine pr 2 rfl<|gN rfl en26 rfl (nx_calls g s p1 false ((Sp.nameByte (Sp.nx s (p1)))) ps _ hr hb om) fun v w hv => ?_
  obtain ⟨rfl, hv⟩ := hv
  have hr := hr.grN hv
  have hG := hG.trans (hv.no _)
  have hnx := Sp.nx_lt s (p1)
  refine gN rfl en54 rfl (nameByte_calls _ _) fun v w hv => ?_
  obtain ⟨rfl, hv⟩ := hv
  have hr := hr.grN hv
  have hG := hG.trans (hv.no _)
  refine pr 3 rfl<|fA fo38_2 rfl<|sT sc4 hr rfl fun w hr hs => ?_
  have hr : Blk _ g 38 [str s, .int .i64 ((p1 : Nat) : Int), .bool (!(Sp.nameByte (Sp.nx s (p1)))), .bool ((Sp.nameByte (Sp.nx s (p1)))), .bool ps] := hr
  have hG := hG.trans hs
  refine nsq<|qr<|pr 2 rfl<|fA fo38_2 rfl<|lD sc4 hr rfl rfl<|ns<|cC rfl (fun h8 => ?_) (fun h8 => ?_)
  ·try simp only [Bool.not_eq_true', Bool.not_eq_false'] at h8
   have hr : Blk w g 38 [str s, .int .i64 ((p1 : Nat) : Int), .bool true, .bool false, .bool ps] := by simpa [h8] using hr
   refine qr<|pr 1 rfl<|nsth<|rA rfl rfl ?_
   have E : Sp.hash ⟨s, p0, b0, u0, ps⟩ = ([], ⟨s, p1, true, false, ps⟩) := by simp [Sp.hash, Rd.refuse, Rd.unsure, Rd.adv, Rd.orUns, Rd.orBad, e1, h8]
   rw [E]
   exact ⟨rfl, hr, hG⟩
  try simp only [Bool.not_eq_true', Bool.not_eq_false'] at h8
  have hr : Blk w g 38 [str s, .int .i64 ((p1 : Nat) : Int), .bool false, .bool true, .bool ps] := by simpa [h8] using hr
  refine ksqr<|pr 1 rfl<|eN en42 rfl (rest_calls g s p1 false true ps _ hr hb om) fun v w hv => ?_
  obtain ⟨v9, p9, b9, u9, e9, hp9a, hp9b, hb9, hu9, hl9, rfl, hr, hv⟩ := spl2 (Sp.rest_le ⟨s, p1, false, true, ps⟩ okk) hv
  have hG := hG.trans hv
  refine pr 1 rfl<|nst<|rA rfl rfl ?_
  have E : Sp.hash ⟨s, p0, b0, u0, ps⟩ = (v9, ⟨s, p9, b9, u9, ps⟩) := by simp [Sp.hash, Rd.refuse, Rd.unsure, Rd.adv, Rd.orUns, Rd.orBad, e1, h8, e9]
  rw [E]
  exact ⟨rfl, hr, hG⟩
 try simp only [Bool.not_eq_true', Bool.not_eq_false'] at h2
 subst h2
 have hr : RK g s p1 b1 u1 ps _ := hr
 refine ksq<|qr<|pr 2 rfl<|fA fo38_2 rfl<|lD sc4 hr rfl rfl<|ns<|cC rfl (fun h10 => ?_) (fun h10 => ?_)
 ·try simp only [Bool.not_eq_true', Bool.not_eq_false'] at h10
  subst h10
  have hr : RK g s p1 true u1 ps _ := hr
  refine qr<|pr 1 rfl<|nsth<|rA rfl rfl ?_
  have E : Sp.hash ⟨s, p0, b0, u0, ps⟩ = ([], ⟨s, p1, true, u1, ps⟩) := by simp [Sp.hash, Rd.refuse, Rd.unsure, Rd.adv, Rd.orUns, Rd.orBad, e1]
  rw [E]
  exact ⟨rfl, hr, hG⟩
 try simp only [Bool.not_eq_true', Bool.not_eq_false'] at h10
 subst h10
 have hr : RK g s p1 false u1 ps _ := hr
 refine ksqr<|pr 1 rfl<|eN en42 rfl (rest_calls g s p1 false u1 ps _ hr hb om) fun v w hv => ?_
 obtain ⟨v11, p11, b11, u11, e11, hp11a, hp11b, hb11, hu11, hl11, rfl, hr, hv⟩ := spl2 (Sp.rest_le ⟨s, p1, false, u1, ps⟩ okk) hv
 have hG := hG.trans hv
 refine pr 1 rfl<|nst<|rA rfl rfl ?_
 have E : Sp.hash ⟨s, p0, b0, u0, ps⟩ = (v11, ⟨s, p11, b11, u11, ps⟩) := by simp [Sp.hash, Rd.refuse, Rd.unsure, Rd.adv, Rd.orUns, Rd.orBad, e1, e11]
 rw [E]
 exact ⟨rfl, hr, hG⟩
theorem element_calls (g : Nat) (s : List UInt8) (p0 : Nat) (b0 u0 ps : Bool) (w0 : World) (hr : RD g ⟨s, p0, b0, u0, ps⟩ w0) (hb : s.length ≤ 1000) (hp : p0 ≤ s.length + 1) :
 CR PR 45 [pP g] w0 fun v w' => v = str (Sp.element ⟨s, p0, b0, u0, ps⟩).1 ∧ RD g (Sp.element ⟨s, p0, b0, u0, ps⟩).2 w' ∧ Gr w0 w' (some g) := by
 have hG : Gr w0 w0 (some g) := Gr.refl _ _
 refine CR.of (n := 29) [(0, pP g)] Tryz.func45 rfl Tryz.ntmps45 rfl ⟨rfl, trivial⟩<|qr<|pr 1 rfl<|nsqr<|pr 1 rfl<|eN en36 rfl (name_calls g s p0 b0 u0 ps _ hr hb om) fun v w hv => ?_
 obtain ⟨v1, p1, b1, u1, e1, hp1a, hp1b, hb1, hu1, hl1, rfl, hr, hv⟩ := spl2 (Sp.name_le ⟨s, p0, b0, u0, ps⟩ okk) hv
 have hG := hG.trans hv
 refine eN en35 rfl (lower_calls _ _ om) fun v w hv => ?_
 obtain ⟨rfl, hv⟩ := hv
 have hr := hr.grN hv
 have hG := hG.trans (hv.no _)
 refine pr 1 rfl<|nsq<|qr<|pr 1 rfl<|ns<|rO<|qqr<|qq (R.eqS rfl rfl) rfl<|pr 1 rfl<|ns<|cD rfl (fun h2 => ?_) fun h2 => ?_
 ·have h2i := h2
  try norm_cast at h2
  rw [decide_eq_true h2i]
  refine ks<|cV rfl<|rK<|bS<|qr<|pr 3 rfl<|fA fo38_3 rfl<|W.splitB (R.load sc4 rfl hr rfl) rfl rfl rfl (fun h3 => ?_) (fun h3 => ?_)
  ·subst h3
   have hr : RK g s p1 b1 true ps _ := hr
   refine pr 6 rfl<|fA fo38_3 rfl<|sT sc4 hr rfl fun w hr hs => ?_
   have hr : RK g s p1 b1 true ps _ := hr
   have hG := hG.trans hs
   refine nsqr<|pr 2 rfl<|nst<|rA rfl rfl ?_
   have E : Sp.element ⟨s, p0, b0, u0, ps⟩ = ((Sp.lower v1), ⟨s, p1, b1, true, ps⟩) := by simp [Sp.element, Rd.refuse, Rd.unsure, Rd.adv, Rd.orUns, Rd.orBad, Sp.elements, e1, h2]
   rw [E]
   exact ⟨rfl, hr, hG⟩
  subst h3
  have hr : RK g s p1 b1 false ps _ := hr
  refine pr 2 rfl<|gN rfl en26 rfl (nx_calls g s p1 b1 false ps _ hr hb om) fun v w hv => ?_
  obtain ⟨rfl, hv⟩ := hv
  have hr := hr.grN hv
  have hG := hG.trans (hv.no _)
  have hnx := Sp.nx_lt s (p1)
  refine W.gsplit rfl (R.eqI rfl rfl) rfl rfl rfl (fun h4 => ?_) (fun h4 => ?_)
  ·try norm_cast at h4
   refine pr 2 rfl<|fA fo38_3 rfl<|sT sc4 hr rfl fun w hr hs => ?_
   have hr : RK g s p1 b1 true ps _ := hr
   have hG := hG.trans hs
   refine nsqr<|pr 2 rfl<|nst<|rA rfl rfl ?_
   have E : Sp.element ⟨s, p0, b0, u0, ps⟩ = ((Sp.lower v1), ⟨s, p1, b1, true, ps⟩) := by simp [Sp.element, Rd.refuse, Rd.unsure, Rd.adv, Rd.orUns, Rd.orBad, Sp.elements, e1, h2, h4]
   rw [E]
   exact ⟨rfl, hr, hG⟩
  try norm_cast at h4
  refine pr 2 rfl<|fA fo38_3 rfl<|sT sc4 hr rfl fun w hr hs => ?_
  have hr : RK g s p1 b1 false ps _ := hr
  have hG := hG.trans hs
  refine nsqr<|pr 2 rfl<|nst<|rA rfl rfl ?_
  have E : Sp.element ⟨s, p0, b0, u0, ps⟩ = ((Sp.lower v1), ⟨s, p1, b1, false, ps⟩) := by simp [Sp.element, Rd.refuse, Rd.unsure, Rd.adv, Rd.orUns, Rd.orBad, Sp.elements, e1, h2, h4]
  rw [E]
  exact ⟨rfl, hr, hG⟩
 have h2i := h2
 try norm_cast at h2
 rw [decide_eq_false h2i]
 refine qr<|qq (R.eqS rfl rfl) rfl<|pr 1 rfl<|ns<|cD rfl (fun h5 => ?_) fun h5 => ?_
 ·have h5i := h5
  try norm_cast at h5
  rw [decide_eq_true h5i]
  refine ks<|cV rfl<|rK<|bS<|qr<|pr 3 rfl<|fA fo38_3 rfl<|W.splitB (R.load sc4 rfl hr rfl) rfl rfl rfl (fun h6 => ?_) (fun h6 => ?_)
  ·subst h6
   have hr : RK g s p1 b1 true ps _ := hr
   refine pr 6 rfl<|fA fo38_3 rfl<|sT sc4 hr rfl fun w hr hs => ?_
   have hr : RK g s p1 b1 true ps _ := hr
   have hG := hG.trans hs
   refine nsqr<|pr 2 rfl<|nst<|rA rfl rfl ?_
   have E : Sp.element ⟨s, p0, b0, u0, ps⟩ = ((Sp.lower v1), ⟨s, p1, b1, true, ps⟩) := by simp [Sp.element, Rd.refuse, Rd.unsure, Rd.adv, Rd.orUns, Rd.orBad, Sp.elements, e1, h2, h5]
   rw [E]
   exact ⟨rfl, hr, hG⟩
  subst h6
  have hr : RK g s p1 b1 false ps _ := hr
  refine pr 2 rfl<|gN rfl en26 rfl (nx_calls g s p1 b1 false ps _ hr hb om) fun v w hv => ?_
  obtain ⟨rfl, hv⟩ := hv
  have hr := hr.grN hv
  have hG := hG.trans (hv.no _)
  have hnx := Sp.nx_lt s (p1)
  refine W.gsplit rfl (R.eqI rfl rfl) rfl rfl rfl (fun h7 => ?_) (fun h7 => ?_)
  ·try norm_cast at h7
   refine pr 2 rfl<|fA fo38_3 rfl<|sT sc4 hr rfl fun w hr hs => ?_
   have hr : RK g s p1 b1 true ps _ := hr
   have hG := hG.trans hs
   refine nsqr<|pr 2 rfl<|nst<|rA rfl rfl ?_
   have E : Sp.element ⟨s, p0, b0, u0, ps⟩ = ((Sp.lower v1), ⟨s, p1, b1, true, ps⟩) := by simp [Sp.element, Rd.refuse, Rd.unsure, Rd.adv, Rd.orUns, Rd.orBad, Sp.elements, e1, h2, h5, h7]
   rw [E]
   exact ⟨rfl, hr, hG⟩
  try norm_cast at h7
  refine pr 2 rfl<|fA fo38_3 rfl<|sT sc4 hr rfl fun w hr hs => ?_
  have hr : RK g s p1 b1 false ps _ := hr
  have hG := hG.trans hs
  refine nsqr<|pr 2 rfl<|nst<|rA rfl rfl ?_
  have E : Sp.element ⟨s, p0, b0, u0, ps⟩ = ((Sp.lower v1), ⟨s, p1, b1, false, ps⟩) := by simp [Sp.element, Rd.refuse, Rd.unsure, Rd.adv, Rd.orUns, Rd.orBad, Sp.elements, e1, h2, h5, h7]
  rw [E]
  exact ⟨rfl, hr, hG⟩
 have h5i := h5
 try norm_cast at h5
 rw [decide_eq_false h5i]
 refine qr<|qq (R.eqS rfl rfl) rfl<|pr 1 rfl<|ns<|cD rfl (fun h8 => ?_) fun h8 => ?_
 ·have h8i := h8
  try norm_cast at h8
  rw [decide_eq_true h8i]
  refine ks<|cV rfl<|rK<|bS<|qr<|pr 3 rfl<|fA fo38_3 rfl<|W.splitB (R.load sc4 rfl hr rfl) rfl rfl rfl (fun h9 => ?_) (fun h9 => ?_)
  ·subst h9
   have hr : RK g s p1 b1 true ps _ := hr
   refine pr 6 rfl<|fA fo38_3 rfl<|sT sc4 hr rfl fun w hr hs => ?_
   have hr : RK g s p1 b1 true ps _ := hr
   have hG := hG.trans hs
   refine nsqr<|pr 2 rfl<|nst<|rA rfl rfl ?_
   have E : Sp.element ⟨s, p0, b0, u0, ps⟩ = ((Sp.lower v1), ⟨s, p1, b1, true, ps⟩) := by simp [Sp.element, Rd.refuse, Rd.unsure, Rd.adv, Rd.orUns, Rd.orBad, Sp.elements, e1, h2, h5, h8]
   rw [E]
   exact ⟨rfl, hr, hG⟩
  subst h9
  have hr : RK g s p1 b1 false ps _ := hr
  refine pr 2 rfl<|gN rfl en26 rfl (nx_calls g s p1 b1 false ps _ hr hb om) fun v w hv => ?_
  obtain ⟨rfl, hv⟩ := hv
  have hr := hr.grN hv
  have hG := hG.trans (hv.no _)
  have hnx := Sp.nx_lt s (p1)
  refine W.gsplit rfl (R.eqI rfl rfl) rfl rfl rfl (fun h10 => ?_) (fun h10 => ?_)
  ·try norm_cast at h10
   refine pr 2 rfl<|fA fo38_3 rfl<|sT sc4 hr rfl fun w hr hs => ?_
   have hr : RK g s p1 b1 true ps _ := hr
   have hG := hG.trans hs
   refine nsqr<|pr 2 rfl<|nst<|rA rfl rfl ?_
   have E : Sp.element ⟨s, p0, b0, u0, ps⟩ = ((Sp.lower v1), ⟨s, p1, b1, true, ps⟩) := by simp [Sp.element, Rd.refuse, Rd.unsure, Rd.adv, Rd.orUns, Rd.orBad, Sp.elements, e1, h2, h5, h8, h10]
   rw [E]
   exact ⟨rfl, hr, hG⟩
  try norm_cast at h10
  refine pr 2 rfl<|fA fo38_3 rfl<|sT sc4 hr rfl fun w hr hs => ?_
  have hr : RK g s p1 b1 false ps _ := hr
  have hG := hG.trans hs
  refine nsqr<|pr 2 rfl<|nst<|rA rfl rfl ?_
  have E : Sp.element ⟨s, p0, b0, u0, ps⟩ = ((Sp.lower v1), ⟨s, p1, b1, false, ps⟩) := by simp [Sp.element, Rd.refuse, Rd.unsure, Rd.adv, Rd.orUns, Rd.orBad, Sp.elements, e1, h2, h5, h8, h10]
  rw [E]
  exact ⟨rfl, hr, hG⟩
 have h8i := h8
 try norm_cast at h8
 rw [decide_eq_false h8i]
 refine rR<|qq (R.eqS rfl rfl) rfl<|pr 1 rfl<|ns<|cD rfl (fun h11 => ?_) fun h11 => ?_
 ·have h11i := h11
  try norm_cast at h11
  rw [decide_eq_true h11i]
  refine rK<|bS<|qr<|pr 3 rfl<|fA fo38_3 rfl<|W.splitB (R.load sc4 rfl hr rfl) rfl rfl rfl (fun h12 => ?_) (fun h12 => ?_)
  ·subst h12
   have hr : RK g s p1 b1 true ps _ := hr
   refine pr 6 rfl<|fA fo38_3 rfl<|sT sc4 hr rfl fun w hr hs => ?_
   have hr : RK g s p1 b1 true ps _ := hr
   have hG := hG.trans hs
   refine nsqr<|pr 2 rfl<|nst<|rA rfl rfl ?_
   have E : Sp.element ⟨s, p0, b0, u0, ps⟩ = ((Sp.lower v1), ⟨s, p1, b1, true, ps⟩) := by simp [Sp.element, Rd.refuse, Rd.unsure, Rd.adv, Rd.orUns, Rd.orBad, Sp.elements, e1, h2, h5, h8, h11]
   rw [E]
   exact ⟨rfl, hr, hG⟩
  subst h12
  have hr : RK g s p1 b1 false ps _ := hr
  refine pr 2 rfl<|gN rfl en26 rfl (nx_calls g s p1 b1 false ps _ hr hb om) fun v w hv => ?_
  obtain ⟨rfl, hv⟩ := hv
  have hr := hr.grN hv
  have hG := hG.trans (hv.no _)
  have hnx := Sp.nx_lt s (p1)
  refine W.gsplit rfl (R.eqI rfl rfl) rfl rfl rfl (fun h13 => ?_) (fun h13 => ?_)
  ·try norm_cast at h13
   refine pr 2 rfl<|fA fo38_3 rfl<|sT sc4 hr rfl fun w hr hs => ?_
   have hr : RK g s p1 b1 true ps _ := hr
   have hG := hG.trans hs
   refine nsqr<|pr 2 rfl<|nst<|rA rfl rfl ?_
   have E : Sp.element ⟨s, p0, b0, u0, ps⟩ = ((Sp.lower v1), ⟨s, p1, b1, true, ps⟩) := by simp [Sp.element, Rd.refuse, Rd.unsure, Rd.adv, Rd.orUns, Rd.orBad, Sp.elements, e1, h2, h5, h8, h11, h13]
   rw [E]
   exact ⟨rfl, hr, hG⟩
  try norm_cast at h13
  refine pr 2 rfl<|fA fo38_3 rfl<|sT sc4 hr rfl fun w hr hs => ?_
  have hr : RK g s p1 b1 false ps _ := hr
  have hG := hG.trans hs
  refine nsqr<|pr 2 rfl<|nst<|rA rfl rfl ?_
  have E : Sp.element ⟨s, p0, b0, u0, ps⟩ = ((Sp.lower v1), ⟨s, p1, b1, false, ps⟩) := by simp [Sp.element, Rd.refuse, Rd.unsure, Rd.adv, Rd.orUns, Rd.orBad, Sp.elements, e1, h2, h5, h8, h11, h13]
  rw [E]
  exact ⟨rfl, hr, hG⟩
 have h11i := h11
 try norm_cast at h11
 rw [decide_eq_false h11i]
 refine rR<|pr 2 rfl<|fA fo38_3 rfl<|sT sc4 hr rfl fun w hr hs => ?_
 have hr : RK g s p1 b1 true ps _ := hr
 have hG := hG.trans hs
 refine nbs<|qr<|pr 3 rfl<|fA fo38_3 rfl<|lD sc4 hr rfl rfl<|pr 6 rfl<|fA fo38_3 rfl<|sT sc4 hr rfl fun w hr hs => ?_
 have hr : RK g s p1 b1 true ps _ := hr
 have hG := hG.trans hs
 refine nsqr<|pr 2 rfl<|nst<|rA rfl rfl ?_
 have E : Sp.element ⟨s, p0, b0, u0, ps⟩ = ((Sp.lower v1), ⟨s, p1, b1, true, ps⟩) := by simp [Sp.element, Rd.refuse, Rd.unsure, Rd.adv, Rd.orUns, Rd.orBad, Sp.elements, e1, h2, h5, h8, h11]
 rw [E]
 exact ⟨rfl, hr, hG⟩
theorem value_calls (g : Nat) (s : List UInt8) (p0 : Nat) (b0 u0 ps : Bool) (w0 : World) (hr : RD g ⟨s, p0, b0, u0, ps⟩ w0) (hb : s.length ≤ 1000) (hp : p0 ≤ s.length + 1) :
 CR PR 56 [pP g] w0 fun v w' => v = str (Sp.value ⟨s, p0, b0, u0, ps⟩).1 ∧ RD g (Sp.value ⟨s, p0, b0, u0, ps⟩).2 w' ∧ Gr w0 w' (some g) := by
 have hG : Gr w0 w0 (some g) := Gr.refl _ _
 refine CR.of (n := 30) [(0, pP g)] Tryz.func56 rfl Tryz.ntmps56 rfl ⟨rfl, trivial⟩<|qr<|pr 1 rfl<|nsqr<|pr 1 rfl<|eN en26 rfl (nx_calls g s p0 b0 u0 ps _ hr hb om) fun v w hv => ?_
 obtain ⟨rfl, hv⟩ := hv
 have hr := hr.grN hv
 have hG := hG.trans (hv.no _)
 have hnx := Sp.nx_lt s (p0)
 refine pr 1 rfl<|nsq<|qr<|pr 1 rfl<|W.split (R.eqI rfl rfl) rfl rfl rfl (fun h1 => ?_) (fun h1 => ?_)
 ·try norm_cast at h1
  refine pr 4 rfl<|ns<|cV rfl<|qr<|pr 1 rfl<|eN en72 rfl (quoted_calls g s p0 b0 u0 ps _ hr hb (Sp.nx_pos om)) fun v w hv => ?_
  obtain ⟨v2, p2, b2, u2, e2, hp2a, hp2b, hb2, hu2, hl2, rfl, hr, hv⟩ := spl2 (Sp.quoted_le ⟨s, p0, b0, u0, ps⟩ (by have := Sp.nx_pos (s := s) (p := p0) om; simp only; omega)) hv
  have hG := hG.trans hv
  refine pr 1 rfl<|nsth<|rA rfl rfl ?_
  have E : Sp.value ⟨s, p0, b0, u0, ps⟩ = (v2, ⟨s, p2, b2, u2, ps⟩) := by simp [Sp.value, Rd.refuse, Rd.unsure, Rd.adv, Rd.orUns, Rd.orBad, h1, e2]
  rw [E]
  exact ⟨rfl, hr, hG⟩
 try norm_cast at h1
 refine pr 2 rfl<|gg (R.eqI rfl rfl) rfl<|pr 1 rfl<|ns<|cD rfl (fun h3 => ?_) fun h3 => ?_
 ·try norm_cast at h3
  refine qr<|pr 1 rfl<|eN en72 rfl (quoted_calls g s p0 b0 u0 ps _ hr hb (Sp.nx_pos om)) fun v w hv => ?_
  obtain ⟨v4, p4, b4, u4, e4, hp4a, hp4b, hb4, hu4, hl4, rfl, hr, hv⟩ := spl2 (Sp.quoted_le ⟨s, p0, b0, u0, ps⟩ (by have := Sp.nx_pos (s := s) (p := p0) om; simp only; omega)) hv
  have hG := hG.trans hv
  refine pr 1 rfl<|nsth<|rA rfl rfl ?_
  have E : Sp.value ⟨s, p0, b0, u0, ps⟩ = (v4, ⟨s, p4, b4, u4, ps⟩) := by simp [Sp.value, Rd.refuse, Rd.unsure, Rd.adv, Rd.orUns, Rd.orBad, h1, h3, e4]
  rw [E]
  exact ⟨rfl, hr, hG⟩
 try norm_cast at h3
 refine ksq<|qr<|pr 1 rfl<|eN en34 rfl (nameFollows_calls g ⟨s, p0, b0, u0, ps⟩ _ hr hb sO) fun v w hv => ?_
 obtain ⟨v5, p5, b5, u5, e5, hp5a, hp5b, hb5, hu5, rfl, hr, hv⟩ := spl (Sp.nameFollows_le ⟨s, p0, b0, u0, ps⟩ okk) hv
 have hG := hG.trans hv
 cases hb5 : v5
 ·refine pr 3 rfl<|gN rfl en54 rfl (nameByte_calls _ _) fun v w hv => ?_
  obtain ⟨rfl, hv⟩ := hv
  have hr := hr.grN hv
  have hG := hG.trans (hv.no _)
  cases hb6 : Sp.nameByte (Sp.nx s (p0))
  ·refine pr 2 rfl<|gg (R.geI rfl rfl) rfl<|pr 2 rfl<|ns<|cD rfl (fun h8 => ?_) fun h8 => ?_
   ·try norm_cast at h8
    refine rR<|pr 2 rfl<|fA fo38_3 rfl<|sT sc4 hr rfl fun w hr hs => ?_
    have hr : RK g s p5 b5 true ps _ := hr
    have hG := hG.trans hs
    refine nsqr<|pr 1 rfl<|eN en36 rfl (name_calls g s p5 b5 true ps _ hr hb om) fun v w hv => ?_
    obtain ⟨v9, p9, b9, u9, e9, hp9a, hp9b, hb9, hu9, hl9, rfl, hr, hv⟩ := spl2 (Sp.name_le ⟨s, p5, b5, true, ps⟩ okk) hv
    have hG := hG.trans hv
    refine pr 1 rfl<|nst<|rA rfl rfl ?_
    have E : Sp.value ⟨s, p0, b0, u0, ps⟩ = (v9, ⟨s, p9, b9, u9, ps⟩) := by simp [Sp.value, Rd.refuse, Rd.unsure, Rd.adv, Rd.orUns, Rd.orBad, h1, h3, e5, hb5, hb6, h8, e9]
    rw [E]
    exact ⟨rfl, hr, hG⟩
   try norm_cast at h8
   refine ksqr<|pr 1 rfl<|eN en36 rfl (name_calls g s p5 b5 u5 ps _ hr hb om) fun v w hv => ?_
   obtain ⟨v10, p10, b10, u10, e10, hp10a, hp10b, hb10, hu10, hl10, rfl, hr, hv⟩ := spl2 (Sp.name_le ⟨s, p5, b5, u5, ps⟩ okk) hv
   have hG := hG.trans hv
   refine pr 1 rfl<|nst<|rA rfl rfl ?_
   have E : Sp.value ⟨s, p0, b0, u0, ps⟩ = (v10, ⟨s, p10, b10, u10, ps⟩) := by simp [Sp.value, Rd.refuse, Rd.unsure, Rd.adv, Rd.orUns, Rd.orBad, h1, h3, e5, hb5, hb6, h8, e10]
   rw [E]
   exact ⟨rfl, hr, hG⟩
  refine pr 5 rfl<|ns<|cV rfl<|rR<|pr 2 rfl<|fA fo38_3 rfl<|sT sc4 hr rfl fun w hr hs => ?_
  have hr : RK g s p5 b5 true ps _ := hr
  have hG := hG.trans hs
  refine nsqr<|pr 1 rfl<|eN en36 rfl (name_calls g s p5 b5 true ps _ hr hb om) fun v w hv => ?_
  obtain ⟨v11, p11, b11, u11, e11, hp11a, hp11b, hb11, hu11, hl11, rfl, hr, hv⟩ := spl2 (Sp.name_le ⟨s, p5, b5, true, ps⟩ okk) hv
  have hG := hG.trans hv
  refine pr 1 rfl<|nst<|rA rfl rfl ?_
  have E : Sp.value ⟨s, p0, b0, u0, ps⟩ = (v11, ⟨s, p11, b11, u11, ps⟩) := by simp [Sp.value, Rd.refuse, Rd.unsure, Rd.adv, Rd.orUns, Rd.orBad, h1, h3, e5, hb5, hb6, e11]
  rw [E]
  exact ⟨rfl, hr, hG⟩
 refine pr 9 rfl<|ns<|cF rfl<|ksqr<|pr 1 rfl<|eN en36 rfl (name_calls g s p5 b5 u5 ps _ hr hb om) fun v w hv => ?_
 obtain ⟨v12, p12, b12, u12, e12, hp12a, hp12b, hb12, hu12, hl12, rfl, hr, hv⟩ := spl2 (Sp.name_le ⟨s, p5, b5, u5, ps⟩ okk) hv
 have hG := hG.trans hv
 refine pr 1 rfl<|nst<|rA rfl rfl ?_
 have E : Sp.value ⟨s, p0, b0, u0, ps⟩ = (v12, ⟨s, p12, b12, u12, ps⟩) := by simp [Sp.value, Rd.refuse, Rd.unsure, Rd.adv, Rd.orUns, Rd.orBad, h1, h3, e5, hb5, e12]
 rw [E]
 exact ⟨rfl, hr, hG⟩
end Go.Proofs.YtogfnbkccfkpoaaGreatDoor
