/- A part (9) of the proof of the row of laws.FnFromText: lemmas on ImB, ImC, ImD, Shf, Lib. No condition but what each statement says. -/
import Derived.Test.YtogfnbkccfkpoaaGreatDoorU08
import Derived.Shelf.Strings.Builder1
import Derived.Shelf.Strings.Builder2
import Derived.Shelf.Strings.OnBuilder
import Derived.Shelf.Strings.BuilderF
import Derived.Shelf.Strconv.Atoi
import Derived.Shelf.Strconv.Itoa0
import Derived.Shelf.Strconv.Itoa1
import Derived.Shelf.LaysM
import Derived.Shelf.Strconv.Itoa2
import Derived.Shelf.Strconv.Itoa3
import Derived.Shelf.Strconv.AtoiErrFast
import Derived.Shelf.Strconv.ParseIntEmpty
import Derived.Shelf.Strconv.AtoiFail
import Derived.Shelf.Strconv.Clone
import Derived.Shelf.Strconv.SyntaxError
import Derived.Shelf.LaysC
import Derived.Shelf.Strconv.ToError
import Derived.Shelf.Strconv.Lower
import Derived.Shelf.Strconv.ParseUint10
import Derived.Shelf.Strconv.ParseUint10Empty
import Derived.Shelf.Strconv.ParseUint10Any
import Derived.Shelf.Strconv.ParseInt10
import Derived.Shelf.Strconv.AtoiLong
import Derived.Shelf.Strconv.AtoiInnerAll
import Derived.Shelf.Strconv.RangeError
import Derived.Shelf.Strconv.ToErrorRange
import Derived.Shelf.Strconv.AtoiAll
import Derived.Shelf.Strconv.ErrVarAll
import Derived.Shelf.Strings.Prefix
import Derived.Shelf.Bits.Mul64
import Derived.Shelf.Strings.Repeat
import Derived.Test.YtogfnbkccfkpoaaGreatDoorProg
set_option linter.unusedSimpArgs false
set_option linter.unusedVariables false
set_option maxRecDepth 100000
namespace Go.Proofs.YtogfnbkccfkpoaaGreatDoor
open Go Go.RowKit
open Eng
theorem R.orB {P : Program} {n : Nat} {l : Fr} {w : World} {dst : Option Nat} {ty : TypeId} {pos : String} {af : Array Edge} {g : Option (Nat × Bool)} {x : Operand} {t u : TypeId} {c : Nat} (hx : ev l x = some (.int .u8 (c : Int))) (hc : c < 256) : Runs P n l ⟨dst, .binOp .or t x (.const (.int .u8 32)) u, ty, pos, af, g⟩ w (.value (.int .u8 ((c ||| 32 : Nat) : Int))) w := fun a ha => by
 have key : ∀ c : Fin 256, IntKind.u8.wrap (((BitVec.ofInt 8 ((c.val : Nat) : Int)) ||| (BitVec.ofInt 8 32)).toNat : Int) = ((c.val ||| 32 : Nat) : Int) := by decide +kernel
 have h1 := key ⟨c, hc⟩
 simp only [execOp, ha.ev hx]
 simp only [eqGuard, binOp, Act.eval, Op.intBits]
 simp only [ne_eq, not_true_eq_false, if_false]
 exact congrArg (fun z => Result.ok (Next.value (Value.int .u8 z)) w) h1
theorem hex_letter {c : Nat} (h1 : Im.hexDigit c = true) (h2 : ¬ (48 ≤ c ∧ c ≤ 57)) (hc : c < 256) : 97 ≤ c ||| 32 ∧ c ||| 32 ≤ 102 ∧ Sp.hexv c = some ((c ||| 32) - 87) := by
 have key : ∀ c : Fin 256, Im.hexDigit c.val = true → ¬ (48 ≤ c.val ∧ c.val ≤ 57) → 97 ≤ c.val ||| 32 ∧ c.val ||| 32 ≤ 102 ∧ Sp.hexv c.val = some ((c.val ||| 32) - 87) := by decide +kernel
 exact key ⟨c, hc⟩ h1 h2
theorem hex_digit {c : Nat} (h1 : 48 ≤ c) (h2 : c ≤ 57) : Sp.hexv c = some (c - 48) := by rw [Sp.hexv, if_pos ⟨h1, h2⟩]
theorem hexNum_snoc (t : List UInt8) (i : Nat) (h : i < t.length) : Im.hexNum (t.take (i + 1)) = 16 * Im.hexNum (t.take i) + (Sp.hexv (byteAt t i)).getD 0 := by
 rw [List.take_succ_eq_append_getElem h]
 simp only [Im.hexNum, List.foldl_append, List.foldl_cons, List.foldl_nil, byteAt, List.getD_eq_getElem?_getD, List.getElem?_eq_getElem h, Option.getD_some]
theorem wrap_u64 {m : Nat} (h : m < 18446744073709551616) : IntKind.u64.wrap (m : Int) = (m : Int) := by
 simp [IntKind.wrap, IntKind.signed, IntKind.bits]; try omega
theorem en99 : enters PR 99 = true := by kernel_rfl
theorem u154 : PR.underlying 154 = some (.int .u64) := by kernel_rfl
theorem lowerByte_calls (c : Nat) (w0 : World) (hc : c < 256) :
 CR PR 99 [.int .u8 (c : Int)] w0 fun v w' => v = .int .u8 ((c ||| 32 : Nat) : Int) ∧ Gr w0 w' none := by
 have hG : Gr w0 w0 none := Gr.refl _ _
 exact CR.of (n := 5) [(0, .int .u8 (c : Int))] Tryz.func99 rfl Tryz.ntmps99 rfl ⟨rfl, trivial⟩<|qr<|pr 1 rfl<|nsqr<|pr 1 rfl<|qq (R.orB rfl hc) rfl<|pr 1 rfl<|nst<|rA rfl rfl ⟨rfl, hG⟩
theorem parseUint16_calls (t : List UInt8) (w0 : World) (ht : ¬ t = []) (hl : t.length ≤ 6) (hx : ∀ k, k < t.length → Im.hexDigit (byteAt t k) = true) :
 CR PR 94 [str t, .int .i64 16, .int .i64 64] w0 fun v w' => v = .tuple #[.int .u64 (Im.hexNum t : Int), .nilIface] ∧ Gr w0 w' none := by
 have hG : Gr w0 w0 none := Gr.refl _ _
 refine CR.of (n := 172) [(0, str t), (1, .int .i64 16), (2, .int .i64 64)] Tryz.func94 rfl Tryz.ntmps94 rfl ⟨rfl, rfl, rfl, trivial⟩<|qr<|pr 2 rfl<|nsq<|qr<|pr 1 rfl<|qq (R.eqS rfl rfl) rfl<|ns<|cD rfl (fun h1 => ?_) fun h1 => ?_
 ·all_goals exact absurd aM ht
 refine ksqr<|pr 1 rfl<|qq (R.eqI rfl rfl) rfl<|pr 1 rfl<|nsqr<|pr 2 rfl<|nsq<|rO<|qr<|pr 1 rfl<|qq (R.leI rfl rfl) rfl<|pr 2 rfl<|gg (R.leI rfl rfl) rfl<|pr 2 rfl<|ns<|cV rfl<|rK<|bS<|qqr<|pr 1 rfl<|qq (R.eqI rfl rfl) rfl<|ns<|cF rfl<|qr<|pr 1 rfl<|qq (R.ltI rfl rfl) rfl<|pr 2 rfl<|gg (R.gtI rfl rfl) rfl<|pr 1 rfl<|ns<|cF rfl<|ksqr<|pr 1 rfl<|nsq<|qr<|pr 1 rfl<|ns<|rO<|qr<|qq (R.eqI rfl rfl) rfl<|pr 1 rfl<|ns<|cF rfl<|qr<|qq (R.eqI rfl rfl) rfl<|pr 1 rfl<|ns<|cV rfl<|rR<|pr 1 rfl<|nbs<|qr<|pr 1 rfl<|qq (R.cv (k' := .u64) (i' := 64) rfl kR kR dC) rfl<|W.q (v := .int .u64 0) (fun a ha => by simp only [execOp, ha.ev (x := .tmp 95) rfl]; rfl) rfl rfl rfl<|W.q (v := .int .u64 18446744073709551615) (fun a ha => by simp only [execOp, ha.ev (x := .tmp 96) rfl]; rfl) rfl rfl rfl<|pr 1 rfl<|nsqr<|pr 1 rfl<|nsqr<|pr 1 rfl<|nsq<|qr<|pr 1 rfl<|W.toBytes rfl u9 u83 u5 rfl rfl fun w b cap hbz hB hv => ?_
 have hG := hG.trans (hv.no _)
 refine qq (R.lenL rfl slq83) rfl<|pr 1 rfl<|ns<|rO<|sB [(1, .int .i64 16), (8, .bool false), (10, .int .u64 1152921504606846976), (11, .int .u64 18446744073709551615), (12, .bool false), (13, .int .u64 ((0 : Nat) : Int)), (99, .slice (some ⟨b, 0, none⟩) t.length cap), (100, .int .i64 (t.length : Int)), (101, .int .i64 ((0 : Nat) : Int))] rfl<|C.loop (fun m l w' => ∃ i : Nat, l = [(1, .int .i64 16), (8, .bool false), (10, .int .u64 1152921504606846976), (11, .int .u64 18446744073709551615), (12, .bool false), (13, .int .u64 ((Im.hexNum (t.take i) : Nat) : Int)), (99, .slice (some ⟨b, 0, none⟩) t.length cap), (100, .int .i64 (t.length : Int)), (101, .int .i64 ((i : Nat) : Int))] ∧ BB w' b t ∧ Gr w0 w' none ∧ i + m = t.length ∧ Im.hexNum (t.take i) < 16 ^ i ∧ i ≤ 6) (t.length) (⟨0, rfl, hB, hG, om, by simp [Im.hexNum], om⟩) ?_
 rintro m l w ⟨i, rfl, hB, hG, hm, hn, hi6⟩
 refine qr<|qq (R.ltI rfl rfl) rfl<|nsq<|cD rfl (fun h2 => ?_) fun h2 => ?_
 ·have hxi := hx i om
  have hbl := byteAt_lt t i
  have h16 : 16 ^ i ≤ 1048576 := Nat.le_trans (Nat.pow_le_pow_right dC (show i ≤ 5 by omega)) dC
  refine ksq<|rO<|qr<|qq (R.idxB rfl rfl i rfl om sl83) rfl<|qq (R.loadB sc5 rfl hB (by first | omega | (simp; omega))) rfl<|pr 1 rfl<|nsqr<|pr 1 rfl<|nsq<|rO<|qr<|pr 1 rfl<|W.split (R.eqI rfl rfl) rfl rfl rfl (fun h3 => ?_) (fun h3 => ?_)
  ·refine pr 4 rfl<|ns<|cF rfl<|qr<|pr 1 rfl<|W.split (R.leI rfl rfl) rfl rfl rfl (fun h4 => ?_) (fun h4 => ?_)
   ·refine pr 2 rfl<|W.gsplit rfl (R.leI rfl rfl) rfl rfl rfl (fun h5 => ?_) (fun h5 => ?_)
    ·refine pr 2 rfl<|ns<|cV rfl<|rR<|pr 1 rfl<|qq (R.subB 48 rfl rfl om om) rfl<|pr 1 rfl<|nbs<|qqr<|pr 2 rfl<|qq (R.cv (i' := 16) rfl u5 kR dC) rfl<|qq (R.geI rfl rfl) rfl<|ns<|cD rfl (fun h6 => ?_) fun h6 => ?_
     ·exfalso; omega
     refine ksq<|qr<|pr 2 rfl<|qq (R.geI rfl rfl) rfl<|ns<|cD rfl (fun h7 => ?_) fun h7 => ?_
     ·exfalso; omega
     refine ksqr<|pr 2 rfl<|qq (R.cv (i' := 16) rfl u154 kR dC) rfl<|qq (R.mulTo ((16 * Im.hexNum (t.take i) : Nat) : Int) rfl rfl (by rw [Int.mul_comm]; exact wrap_u64 (m := 16 * Im.hexNum (t.take i)) om)) rfl<|pr 1 rfl<|nsqr<|pr 2 rfl<|qq (R.cv rfl u154 kR (wrap_u64 om)) rfl<|qq (R.addTo ((16 * Im.hexNum (t.take i) + (byteAt t i - 48) : Nat) : Int) rfl rfl (by rw [← Int.natCast_add]; exact wrap_u64 om)) rfl<|pr 1 rfl<|nsq<|qr<|pr 2 rfl<|W.split (R.ltI rfl rfl) rfl rfl rfl (fun h8 => ?_) (fun h8 => ?_)
     ·exfalso; omega
     refine pr 3 rfl<|W.gsplit rfl (R.gtI rfl rfl) rfl rfl rfl (fun h9 => ?_) (fun h9 => ?_)
     ·exfalso; omega
     refine pr 1 rfl<|ns<|cF rfl<|ks<|rR<|pr 2 rfl<|nbs<|rR<|aK rfl rfl<|pr 1 rfl<|rN ?_
     have hsn := hexNum_snoc t i om
     rw [hex_digit om om, Option.getD_some] at hsn
     have hpw : 16 ^ (i + 1) = 16 ^ i * 16 := Nat.pow_succ 16 i
     exact cT [(1, .int .i64 16), (8, .bool false), (10, .int .u64 1152921504606846976), (11, .int .u64 18446744073709551615), (12, .bool false), (13, .int .u64 ((16 * Im.hexNum (t.take i) + (byteAt t i - 48) : Nat) : Int)), (99, .slice (some ⟨b, 0, none⟩) t.length cap), (100, .int .i64 (t.length : Int)), (101, .int .i64 ((i + 1 : Nat) : Int))] rfl ⟨m - 1, om, i + 1, by rw [show 16 * Im.hexNum (t.take i) + (byteAt t i - 48) = Im.hexNum (t.take (i + 1)) from by omega], hB, hG, om, om, om⟩
    refine pr 2 rfl<|ns<|cF rfl<|rQ ?_
    have hlet := hex_letter hxi om hbl
    refine rR<|pr 1 rfl<|eN en99 rfl (lowerByte_calls (byteAt t i) _ (byteAt_lt t i)) fun v w hv => ?_
    obtain ⟨rfl, hv⟩ := hv
    have hB := hB.grN hv
    have hG := hG.trans hv
    refine W.split (R.leI rfl rfl) rfl rfl rfl (fun h10 => ?_) (fun h10 => ?_)
    ·refine pr 2 rfl<|gN rfl en99 rfl (lowerByte_calls (byteAt t i) _ (byteAt_lt t i)) fun v w hv => ?_
     obtain ⟨rfl, hv⟩ := hv
     have hB := hB.grN hv
     have hG := hG.trans hv
     refine W.gsplit rfl (R.leI rfl rfl) rfl rfl rfl (fun h11 => ?_) (fun h11 => ?_)
     ·refine pr 2 rfl<|ns<|cV rfl<|rR<|pr 1 rfl<|eN en99 rfl (lowerByte_calls (byteAt t i) _ (byteAt_lt t i)) fun v w hv => ?_
      obtain ⟨rfl, hv⟩ := hv
      have hB := hB.grN hv
      have hG := hG.trans hv
      refine qq (R.subB 97 rfl rfl om om) rfl<|qq (R.addB 10 rfl rfl om) rfl<|pr 1 rfl<|nbs<|qqr<|pr 2 rfl<|qq (R.cv (i' := 16) rfl u5 kR dC) rfl<|qq (R.geI rfl rfl) rfl<|ns<|cD rfl (fun h12 => ?_) fun h12 => ?_
      ·exfalso; omega
      refine ksq<|qr<|pr 2 rfl<|qq (R.geI rfl rfl) rfl<|ns<|cD rfl (fun h13 => ?_) fun h13 => ?_
      ·exfalso; omega
      refine ksqr<|pr 2 rfl<|qq (R.cv (i' := 16) rfl u154 kR dC) rfl<|qq (R.mulTo ((16 * Im.hexNum (t.take i) : Nat) : Int) rfl rfl (by rw [Int.mul_comm]; exact wrap_u64 (m := 16 * Im.hexNum (t.take i)) om)) rfl<|pr 1 rfl<|nsqr<|pr 2 rfl<|qq (R.cv rfl u154 kR (wrap_u64 om)) rfl<|qq (R.addTo ((16 * Im.hexNum (t.take i) + ((byteAt t i ||| 32) - 97 + 10) : Nat) : Int) rfl rfl (by rw [← Int.natCast_add]; exact wrap_u64 om)) rfl<|pr 1 rfl<|nsq<|qr<|pr 2 rfl<|W.split (R.ltI rfl rfl) rfl rfl rfl (fun h14 => ?_) (fun h14 => ?_)
      ·exfalso; omega
      refine pr 3 rfl<|W.gsplit rfl (R.gtI rfl rfl) rfl rfl rfl (fun h15 => ?_) (fun h15 => ?_)
      ·exfalso; omega
      refine pr 1 rfl<|ns<|cF rfl<|ks<|rR<|pr 2 rfl<|nbs<|rR<|aK rfl rfl<|pr 1 rfl<|rN ?_
      have hsn := hexNum_snoc t i om
      rw [hlet.2.2, Option.getD_some] at hsn
      have hpw : 16 ^ (i + 1) = 16 ^ i * 16 := Nat.pow_succ 16 i
      exact cT [(1, .int .i64 16), (8, .bool false), (10, .int .u64 1152921504606846976), (11, .int .u64 18446744073709551615), (12, .bool false), (13, .int .u64 ((16 * Im.hexNum (t.take i) + ((byteAt t i ||| 32) - 97 + 10) : Nat) : Int)), (99, .slice (some ⟨b, 0, none⟩) t.length cap), (100, .int .i64 (t.length : Int)), (101, .int .i64 ((i + 1 : Nat) : Int))] rfl ⟨m - 1, om, i + 1, by rw [show 16 * Im.hexNum (t.take i) + ((byteAt t i ||| 32) - 97 + 10) = Im.hexNum (t.take (i + 1)) from by omega], hB, hG, om, om, om⟩
     exfalso; omega
    exfalso; omega
   refine pr 5 rfl<|ns<|cF rfl<|rQ ?_
   have hlet := hex_letter hxi om hbl
   refine rR<|pr 1 rfl<|eN en99 rfl (lowerByte_calls (byteAt t i) _ (byteAt_lt t i)) fun v w hv => ?_
   obtain ⟨rfl, hv⟩ := hv
   have hB := hB.grN hv
   have hG := hG.trans hv
   refine W.split (R.leI rfl rfl) rfl rfl rfl (fun h16 => ?_) (fun h16 => ?_)
   ·refine pr 2 rfl<|gN rfl en99 rfl (lowerByte_calls (byteAt t i) _ (byteAt_lt t i)) fun v w hv => ?_
    obtain ⟨rfl, hv⟩ := hv
    have hB := hB.grN hv
    have hG := hG.trans hv
    refine W.gsplit rfl (R.leI rfl rfl) rfl rfl rfl (fun h17 => ?_) (fun h17 => ?_)
    ·refine pr 2 rfl<|ns<|cV rfl<|rR<|pr 1 rfl<|eN en99 rfl (lowerByte_calls (byteAt t i) _ (byteAt_lt t i)) fun v w hv => ?_
     obtain ⟨rfl, hv⟩ := hv
     have hB := hB.grN hv
     have hG := hG.trans hv
     refine qq (R.subB 97 rfl rfl om om) rfl<|qq (R.addB 10 rfl rfl om) rfl<|pr 1 rfl<|nbs<|qqr<|pr 2 rfl<|qq (R.cv (i' := 16) rfl u5 kR dC) rfl<|qq (R.geI rfl rfl) rfl<|ns<|cD rfl (fun h18 => ?_) fun h18 => ?_
     ·exfalso; omega
     refine ksq<|qr<|pr 2 rfl<|qq (R.geI rfl rfl) rfl<|ns<|cD rfl (fun h19 => ?_) fun h19 => ?_
     ·exfalso; omega
     refine ksqr<|pr 2 rfl<|qq (R.cv (i' := 16) rfl u154 kR dC) rfl<|qq (R.mulTo ((16 * Im.hexNum (t.take i) : Nat) : Int) rfl rfl (by rw [Int.mul_comm]; exact wrap_u64 (m := 16 * Im.hexNum (t.take i)) om)) rfl<|pr 1 rfl<|nsqr<|pr 2 rfl<|qq (R.cv rfl u154 kR (wrap_u64 om)) rfl<|qq (R.addTo ((16 * Im.hexNum (t.take i) + ((byteAt t i ||| 32) - 97 + 10) : Nat) : Int) rfl rfl (by rw [← Int.natCast_add]; exact wrap_u64 om)) rfl<|pr 1 rfl<|nsq<|qr<|pr 2 rfl<|W.split (R.ltI rfl rfl) rfl rfl rfl (fun h20 => ?_) (fun h20 => ?_)
     ·exfalso; omega
     refine pr 3 rfl<|W.gsplit rfl (R.gtI rfl rfl) rfl rfl rfl (fun h21 => ?_) (fun h21 => ?_)
     ·exfalso; omega
     refine pr 1 rfl<|ns<|cF rfl<|ks<|rR<|pr 2 rfl<|nbs<|rR<|aK rfl rfl<|pr 1 rfl<|rN ?_
     have hsn := hexNum_snoc t i om
     rw [hlet.2.2, Option.getD_some] at hsn
     have hpw : 16 ^ (i + 1) = 16 ^ i * 16 := Nat.pow_succ 16 i
     exact cT [(1, .int .i64 16), (8, .bool false), (10, .int .u64 1152921504606846976), (11, .int .u64 18446744073709551615), (12, .bool false), (13, .int .u64 ((16 * Im.hexNum (t.take i) + ((byteAt t i ||| 32) - 97 + 10) : Nat) : Int)), (99, .slice (some ⟨b, 0, none⟩) t.length cap), (100, .int .i64 (t.length : Int)), (101, .int .i64 ((i + 1 : Nat) : Int))] rfl ⟨m - 1, om, i + 1, by rw [show 16 * Im.hexNum (t.take i) + ((byteAt t i ||| 32) - 97 + 10) = Im.hexNum (t.take (i + 1)) from by omega], hB, hG, om, om, om⟩
    exfalso; omega
   exfalso; omega
  refine pr 4 rfl<|ns<|cF rfl<|qr<|pr 1 rfl<|W.split (R.leI rfl rfl) rfl rfl rfl (fun h22 => ?_) (fun h22 => ?_)
  ·refine pr 2 rfl<|W.gsplit rfl (R.leI rfl rfl) rfl rfl rfl (fun h23 => ?_) (fun h23 => ?_)
   ·refine pr 2 rfl<|ns<|cV rfl<|rR<|pr 1 rfl<|qq (R.subB 48 rfl rfl om om) rfl<|pr 1 rfl<|nbs<|qqr<|pr 2 rfl<|qq (R.cv (i' := 16) rfl u5 kR dC) rfl<|qq (R.geI rfl rfl) rfl<|ns<|cD rfl (fun h24 => ?_) fun h24 => ?_
    ·exfalso; omega
    refine ksq<|qr<|pr 2 rfl<|qq (R.geI rfl rfl) rfl<|ns<|cD rfl (fun h25 => ?_) fun h25 => ?_
    ·exfalso; omega
    refine ksqr<|pr 2 rfl<|qq (R.cv (i' := 16) rfl u154 kR dC) rfl<|qq (R.mulTo ((16 * Im.hexNum (t.take i) : Nat) : Int) rfl rfl (by rw [Int.mul_comm]; exact wrap_u64 (m := 16 * Im.hexNum (t.take i)) om)) rfl<|pr 1 rfl<|nsqr<|pr 2 rfl<|qq (R.cv rfl u154 kR (wrap_u64 om)) rfl<|qq (R.addTo ((16 * Im.hexNum (t.take i) + (byteAt t i - 48) : Nat) : Int) rfl rfl (by rw [← Int.natCast_add]; exact wrap_u64 om)) rfl<|pr 1 rfl<|nsq<|qr<|pr 2 rfl<|W.split (R.ltI rfl rfl) rfl rfl rfl (fun h26 => ?_) (fun h26 => ?_)
    ·exfalso; omega
    refine pr 3 rfl<|W.gsplit rfl (R.gtI rfl rfl) rfl rfl rfl (fun h27 => ?_) (fun h27 => ?_)
    ·exfalso; omega
    refine pr 1 rfl<|ns<|cF rfl<|ks<|rR<|pr 2 rfl<|nbs<|rR<|aK rfl rfl<|pr 1 rfl<|rN ?_
    have hsn := hexNum_snoc t i om
    rw [hex_digit om om, Option.getD_some] at hsn
    have hpw : 16 ^ (i + 1) = 16 ^ i * 16 := Nat.pow_succ 16 i
    exact cT [(1, .int .i64 16), (8, .bool false), (10, .int .u64 1152921504606846976), (11, .int .u64 18446744073709551615), (12, .bool false), (13, .int .u64 ((16 * Im.hexNum (t.take i) + (byteAt t i - 48) : Nat) : Int)), (99, .slice (some ⟨b, 0, none⟩) t.length cap), (100, .int .i64 (t.length : Int)), (101, .int .i64 ((i + 1 : Nat) : Int))] rfl ⟨m - 1, om, i + 1, by rw [show 16 * Im.hexNum (t.take i) + (byteAt t i - 48) = Im.hexNum (t.take (i + 1)) from by omega], hB, hG, om, om, om⟩
   refine pr 2 rfl<|ns<|cF rfl<|rQ ?_
   have hlet := hex_letter hxi om hbl
   refine rR<|pr 1 rfl<|eN en99 rfl (lowerByte_calls (byteAt t i) _ (byteAt_lt t i)) fun v w hv => ?_
   obtain ⟨rfl, hv⟩ := hv
   have hB := hB.grN hv
   have hG := hG.trans hv
   refine W.split (R.leI rfl rfl) rfl rfl rfl (fun h28 => ?_) (fun h28 => ?_)
   ·refine pr 2 rfl<|gN rfl en99 rfl (lowerByte_calls (byteAt t i) _ (byteAt_lt t i)) fun v w hv => ?_
    obtain ⟨rfl, hv⟩ := hv
    have hB := hB.grN hv
    have hG := hG.trans hv
    refine W.gsplit rfl (R.leI rfl rfl) rfl rfl rfl (fun h29 => ?_) (fun h29 => ?_)
    ·refine pr 2 rfl<|ns<|cV rfl<|rR<|pr 1 rfl<|eN en99 rfl (lowerByte_calls (byteAt t i) _ (byteAt_lt t i)) fun v w hv => ?_
     obtain ⟨rfl, hv⟩ := hv
     have hB := hB.grN hv
     have hG := hG.trans hv
     refine qq (R.subB 97 rfl rfl om om) rfl<|qq (R.addB 10 rfl rfl om) rfl<|pr 1 rfl<|nbs<|qqr<|pr 2 rfl<|qq (R.cv (i' := 16) rfl u5 kR dC) rfl<|qq (R.geI rfl rfl) rfl<|ns<|cD rfl (fun h30 => ?_) fun h30 => ?_
     ·exfalso; omega
     refine ksq<|qr<|pr 2 rfl<|qq (R.geI rfl rfl) rfl<|ns<|cD rfl (fun h31 => ?_) fun h31 => ?_
     ·exfalso; omega
     refine ksqr<|pr 2 rfl<|qq (R.cv (i' := 16) rfl u154 kR dC) rfl<|qq (R.mulTo ((16 * Im.hexNum (t.take i) : Nat) : Int) rfl rfl (by rw [Int.mul_comm]; exact wrap_u64 (m := 16 * Im.hexNum (t.take i)) om)) rfl<|pr 1 rfl<|nsqr<|pr 2 rfl<|qq (R.cv rfl u154 kR (wrap_u64 om)) rfl<|qq (R.addTo ((16 * Im.hexNum (t.take i) + ((byteAt t i ||| 32) - 97 + 10) : Nat) : Int) rfl rfl (by rw [← Int.natCast_add]; exact wrap_u64 om)) rfl<|pr 1 rfl<|nsq<|qr<|pr 2 rfl<|W.split (R.ltI rfl rfl) rfl rfl rfl (fun h32 => ?_) (fun h32 => ?_)
     ·exfalso; omega
     refine pr 3 rfl<|W.gsplit rfl (R.gtI rfl rfl) rfl rfl rfl (fun h33 => ?_) (fun h33 => ?_)
     ·exfalso; omega
     refine pr 1 rfl<|ns<|cF rfl<|ks<|rR<|pr 2 rfl<|nbs<|rR<|aK rfl rfl<|pr 1 rfl<|rN ?_
     have hsn := hexNum_snoc t i om
     rw [hlet.2.2, Option.getD_some] at hsn
     have hpw : 16 ^ (i + 1) = 16 ^ i * 16 := Nat.pow_succ 16 i
     exact cT [(1, .int .i64 16), (8, .bool false), (10, .int .u64 1152921504606846976), (11, .int .u64 18446744073709551615), (12, .bool false), (13, .int .u64 ((16 * Im.hexNum (t.take i) + ((byteAt t i ||| 32) - 97 + 10) : Nat) : Int)), (99, .slice (some ⟨b, 0, none⟩) t.length cap), (100, .int .i64 (t.length : Int)), (101, .int .i64 ((i + 1 : Nat) : Int))] rfl ⟨m - 1, om, i + 1, by rw [show 16 * Im.hexNum (t.take i) + ((byteAt t i ||| 32) - 97 + 10) = Im.hexNum (t.take (i + 1)) from by omega], hB, hG, om, om, om⟩
    exfalso; omega
   exfalso; omega
  refine pr 5 rfl<|ns<|cF rfl<|rQ ?_
  have hlet := hex_letter hxi om hbl
  refine rR<|pr 1 rfl<|eN en99 rfl (lowerByte_calls (byteAt t i) _ (byteAt_lt t i)) fun v w hv => ?_
  obtain ⟨rfl, hv⟩ := hv
  have hB := hB.grN hv
  have hG := hG.trans hv
  refine W.split (R.leI rfl rfl) rfl rfl rfl (fun h34 => ?_) (fun h34 => ?_)
  ·refine pr 2 rfl<|gN rfl en99 rfl (lowerByte_calls (byteAt t i) _ (byteAt_lt t i)) fun v w hv => ?_
   obtain ⟨rfl, hv⟩ := hv
   have hB := hB.grN hv
   have hG := hG.trans hv
   refine W.gsplit rfl (R.leI rfl rfl) rfl rfl rfl (fun h35 => ?_) (fun h35 => ?_)
   ·refine pr 2 rfl<|ns<|cV rfl<|rR<|pr 1 rfl<|eN en99 rfl (lowerByte_calls (byteAt t i) _ (byteAt_lt t i)) fun v w hv => ?_
    obtain ⟨rfl, hv⟩ := hv
    have hB := hB.grN hv
    have hG := hG.trans hv
    refine qq (R.subB 97 rfl rfl om om) rfl<|qq (R.addB 10 rfl rfl om) rfl<|pr 1 rfl<|nbs<|qqr<|pr 2 rfl<|qq (R.cv (i' := 16) rfl u5 kR dC) rfl<|qq (R.geI rfl rfl) rfl<|ns<|cD rfl (fun h36 => ?_) fun h36 => ?_
    ·exfalso; omega
    refine ksq<|qr<|pr 2 rfl<|qq (R.geI rfl rfl) rfl<|ns<|cD rfl (fun h37 => ?_) fun h37 => ?_
    ·exfalso; omega
    refine ksqr<|pr 2 rfl<|qq (R.cv (i' := 16) rfl u154 kR dC) rfl<|qq (R.mulTo ((16 * Im.hexNum (t.take i) : Nat) : Int) rfl rfl (by rw [Int.mul_comm]; exact wrap_u64 (m := 16 * Im.hexNum (t.take i)) om)) rfl<|pr 1 rfl<|nsqr<|pr 2 rfl<|qq (R.cv rfl u154 kR (wrap_u64 om)) rfl<|qq (R.addTo ((16 * Im.hexNum (t.take i) + ((byteAt t i ||| 32) - 97 + 10) : Nat) : Int) rfl rfl (by rw [← Int.natCast_add]; exact wrap_u64 om)) rfl<|pr 1 rfl<|nsq<|qr<|pr 2 rfl<|W.split (R.ltI rfl rfl) rfl rfl rfl (fun h38 => ?_) (fun h38 => ?_)
    ·exfalso; omega
    refine pr 3 rfl<|W.gsplit rfl (R.gtI rfl rfl) rfl rfl rfl (fun h39 => ?_) (fun h39 => ?_)
    ·exfalso; omega
    refine pr 1 rfl<|ns<|cF rfl<|ks<|rR<|pr 2 rfl<|nbs<|rR<|aK rfl rfl<|pr 1 rfl<|rN ?_
    have hsn := hexNum_snoc t i om
    rw [hlet.2.2, Option.getD_some] at hsn
    have hpw : 16 ^ (i + 1) = 16 ^ i * 16 := Nat.pow_succ 16 i
    exact cT [(1, .int .i64 16), (8, .bool false), (10, .int .u64 1152921504606846976), (11, .int .u64 18446744073709551615), (12, .bool false), (13, .int .u64 ((16 * Im.hexNum (t.take i) + ((byteAt t i ||| 32) - 97 + 10) : Nat) : Int)), (99, .slice (some ⟨b, 0, none⟩) t.length cap), (100, .int .i64 (t.length : Int)), (101, .int .i64 ((i + 1 : Nat) : Int))] rfl ⟨m - 1, om, i + 1, by rw [show 16 * Im.hexNum (t.take i) + ((byteAt t i ||| 32) - 97 + 10) = Im.hexNum (t.take (i + 1)) from by omega], hB, hG, om, om, om⟩
   exfalso; omega
  exfalso; omega
 refine rE<|rX<|rX<|rY<|sq<|qr<|pr 6 rfl<|ns<|cF rfl<|ksqr<|pr 3 rfl<|nst ?_
 have hil : i = t.length := by omega
 subst hil
 refine At.res2 rfl rfl rfl ⟨by rw [List.take_length], hG⟩
theorem strParseUint16_calls (t : List UInt8) (w0 : World) (ht : ¬ t = []) (hl : t.length ≤ 6) (hx : ∀ k, k < t.length → Im.hexDigit (byteAt t k) = true) :
 CR PR 88 [str t, .int .i64 16, .int .i64 64] w0 fun v w' => v = .tuple #[.int .u64 (Im.hexNum t : Int), .nilIface] ∧ Gr w0 w' none := by
 have hG : Gr w0 w0 none := Gr.refl _ _
 refine CR.of (n := 26) [(0, str t), (1, .int .i64 16), (2, .int .i64 64)] Tryz.func88 rfl Tryz.ntmps88 rfl ⟨rfl, rfl, rfl, trivial⟩<|qr<|pr 2 rfl<|nsqr<|pr 3 rfl<|eN en94 rfl (parseUint16_calls t _ ht hl hx) fun v w hv => ?_
 obtain ⟨rfl, hv⟩ := hv
 have hG := hG.trans hv
 exact pr 5 rfl<|nsq<|qr<|pr 1 rfl<|qq (R.neNilF ifc44 rfl) rfl<|ns<|cF rfl<|ksqr<|pr 3 rfl<|nst<|At.res2 rfl rfl rfl ⟨rfl, hG⟩
theorem index2_fuel (t : List UInt8) (a b : Nat) : ∀ (k j i : Nat), t.length ≤ i + k → Im.index2 t a b (k + j) i = Im.index2 t a b k i
 | 0, j, i, h => by
  cases j with
  | zero => rfl
  | succ j =>
   rw [Nat.zero_add]
   show Im.index2 t a b (j + 1) i = none
   rw [Im.index2, if_neg om]
 | k + 1, j, i, h => by
  rw [show k + 1 + j = (k + j) + 1 from by omega, Im.index2, Im.index2, index2_fuel t a b k j (i + 1) om]
theorem byteAt_drop (s : List UInt8) (a i : Nat) : byteAt (s.drop a) i = byteAt s (a + i) := by
 simp [byteAt, List.getD_eq_getElem?_getD]
theorem commentEnd_index (s : List UInt8) (a : Nat) : ∀ (k i : Nat), Sp.commentEnd s k (a + i) = (Im.index2 (s.drop a) 42 47 k i).map fun j => a + j + 2
 | 0, i => rfl
 | k + 1, i => by
  rw [Sp.commentEnd, Im.index2]
  simp only [List.length_drop, byteAt_drop]
  by_cases h : a + i + 1 < s.length
  ·rw [if_pos h, if_pos (show i + 1 < s.length - a by omega)]
   rw [show a + (i + 1) = a + i + 1 from by omega]
   split
   ·rfl
   have := commentEnd_index s a k (i + 1)
   rwa [show a + (i + 1) = a + i + 1 from by omega] at this
  rw [if_neg h, if_neg (show ¬ i + 1 < s.length - a by omega)]; rfl
theorem commentEnd_zz (s : List UInt8) (i : Nat) (hi : i ≤ s.length) : Sp.commentEnd s s.length i = (Im.index2 (s.drop i) 42 47 (s.drop i).length 0).map fun j => i + j + 2 := by
 have h := commentEnd_index s i s.length 0
 rw [Nat.add_zero] at h
 rw [h, ← index2_fuel (s.drop i) 42 47 (s.drop i).length i 0 om]
 congr 2
 rw [List.length_drop]; omega
theorem slash_iff (s : List UInt8) (i : Nat) : (2 ≤ (s.drop i).length ∧ (s.drop i).take 2 = [47, 42]) ↔ (i + 1 < s.length ∧ byteAt s i = 47 ∧ byteAt s (i + 1) = 42) := by
 rw [List.length_drop]
 by_cases h : i + 1 < s.length
 ·have := take2_eq h 47 42
  rw [show i + 2 - i = 2 from by omega] at this
  rw [this]
  constructor
  ·rintro ⟨_, h2⟩; exact ⟨h, h2⟩
  rintro ⟨_, h2⟩; exact ⟨om, h2⟩
 constructor
 ·intro hq; omega
 intro hq; omega
theorem ws_calls (p : Nat) (s : List UInt8) (i d : Nat) (acc : Bool) (w0 : World) (hp : PD p s i d acc w0) (hb : s.length ≤ 1000) (hi : i ≤ s.length) :
 CR PR 38 [pP p] w0 fun v w' => v = .bool (decide (i < Im.ws s i)) ∧ PD p s (Im.ws s i) d acc w' ∧ Gr w0 w' (some p) := by
 have hp0 := hp
 have hG : Gr w0 w0 (some p) := Gr.refl _ _
 refine CR.of (n := 63) [(0, pP p)] Tryz.func38 rfl Tryz.ntmps38 rfl ⟨rfl, trivial⟩<|qr<|pr 1 rfl<|nsqr<|pr 2 rfl<|fA fo63_1 rfl<|lD sc3 hp rfl rfl<|pr 1 rfl<|nsq<|rO<|sB [(0, pP p), (3, .int .i64 (i : Int))] rfl<|C.loop (fun m l w' => ∃ j : Nat, l = [(0, pP p), (3, .int .i64 (j : Int))] ∧ PD p s i d acc w' ∧ Gr w0 w' (some p) ∧ Im.wsGo s m j = Im.ws s i ∧ s.length < j + m ∧ i ≤ j ∧ j ≤ s.length) (s.length + 1) (⟨i, rfl, hp, hG, rfl, om, om, om⟩) ?_
 rintro m l w ⟨j, rfl, hp, hG, hE, hm, hij, hjl⟩
 refine qqr<|pr 3 rfl<|fA fo63_0 rfl<|lD sc9 hp rfl rfl<|qq (R.lenS rfl u9) rfl<|qq (R.ltI rfl rfl) rfl<|ns<|cD rfl (fun h1 => ?_) fun h1 => ?_
 ·refine ks<|rO<|qqr<|pr 2 rfl<|fA fo63_0 rfl<|lD sc9 hp rfl rfl<|pr 1 rfl<|qq (R.idxS rfl rfl _ rfl om u9) rfl<|ns<|rO<|qqr<|W.split (R.eqI rfl rfl) rfl rfl rfl (fun h2 => ?_) (fun h2 => ?_)
  ·refine pr 1 rfl<|ns<|cV rfl<|ks<|cV rfl<|qr<|pr 1 rfl<|aK rfl rfl<|pr 1 rfl<|ns<|rE<|At.blockExitNe rfl<|rX<|rY ?_
   obtain ⟨m, rfl⟩ := sU m
   rw [Im.wsGo, if_pos om] at hE
   rw [if_pos (by simp [Im.isWs]; omega)] at hE
   exact cT [(0, pP p), (3, .int .i64 ((j + 1 : Nat) : Int))] rfl ⟨m, om, j + 1, rfl, hp, hG, hE, om, om, om⟩
  refine pr 1 rfl<|ns<|cF rfl<|qr<|W.split (R.eqI rfl rfl) rfl rfl rfl (fun h3 => ?_) (fun h3 => ?_)
  ·refine pr 1 rfl<|ns<|cV rfl<|ks<|cV rfl<|qr<|pr 1 rfl<|aK rfl rfl<|pr 1 rfl<|ns<|rE<|At.blockExitNe rfl<|rX<|rY ?_
   obtain ⟨m, rfl⟩ := sU m
   rw [Im.wsGo, if_pos om] at hE
   rw [if_pos (by simp [Im.isWs]; omega)] at hE
   exact cT [(0, pP p), (3, .int .i64 ((j + 1 : Nat) : Int))] rfl ⟨m, om, j + 1, rfl, hp, hG, hE, om, om, om⟩
  refine pr 1 rfl<|ns<|cF rfl<|qr<|W.split (R.eqI rfl rfl) rfl rfl rfl (fun h4 => ?_) (fun h4 => ?_)
  ·refine pr 1 rfl<|ns<|cV rfl<|ks<|cV rfl<|qr<|pr 1 rfl<|aK rfl rfl<|pr 1 rfl<|ns<|rE<|At.blockExitNe rfl<|rX<|rY ?_
   obtain ⟨m, rfl⟩ := sU m
   rw [Im.wsGo, if_pos om] at hE
   rw [if_pos (by simp [Im.isWs]; omega)] at hE
   exact cT [(0, pP p), (3, .int .i64 ((j + 1 : Nat) : Int))] rfl ⟨m, om, j + 1, rfl, hp, hG, hE, om, om, om⟩
  refine pr 1 rfl<|ns<|cF rfl<|qr<|W.split (R.eqI rfl rfl) rfl rfl rfl (fun h5 => ?_) (fun h5 => ?_)
  ·refine pr 1 rfl<|ns<|cV rfl<|ks<|cV rfl<|qr<|pr 1 rfl<|aK rfl rfl<|pr 1 rfl<|ns<|rE<|At.blockExitNe rfl<|rX<|rY ?_
   obtain ⟨m, rfl⟩ := sU m
   rw [Im.wsGo, if_pos om] at hE
   rw [if_pos (by simp [Im.isWs]; omega)] at hE
   exact cT [(0, pP p), (3, .int .i64 ((j + 1 : Nat) : Int))] rfl ⟨m, om, j + 1, rfl, hp, hG, hE, om, om, om⟩
  refine pr 1 rfl<|ns<|cF rfl<|rR<|W.split (R.eqI rfl rfl) rfl rfl rfl (fun h6 => ?_) (fun h6 => ?_)
  ·refine pr 1 rfl<|ns<|cV rfl<|qr<|pr 1 rfl<|aK rfl rfl<|pr 1 rfl<|ns<|rE<|At.blockExitNe rfl<|rX<|rY ?_
   obtain ⟨m, rfl⟩ := sU m
   rw [Im.wsGo, if_pos om] at hE
   rw [if_pos (by simp [Im.isWs]; omega)] at hE
   exact cT [(0, pP p), (3, .int .i64 ((j + 1 : Nat) : Int))] rfl ⟨m, om, j + 1, rfl, hp, hG, hE, om, om, om⟩
  refine pr 1 rfl<|ns<|cF rfl<|qr<|qq (R.eqI rfl rfl) rfl<|pr 1 rfl<|ns<|cD rfl (fun h7 => ?_) fun h7 => ?_
  ·refine qr<|pr 2 rfl<|fA fo63_0 rfl<|lD sc9 hp rfl rfl<|pr 1 rfl<|qq (R.sliceFrom rfl rfl rfl om u9) rfl<|eN en47 rfl (hasPrefix_calls (s.drop j) [47, 42] _ sM dC) fun v w hv => ?_
   obtain ⟨rfl, hv⟩ := hv
   have hp := hp.grN hv
   have hG := hG.trans (hv.no _)
   refine ns<|cD rfl (fun h8 => ?_) fun h8 => ?_
   ·refine rQ ?_
    have hslash := (slash_iff s j).1 aM
    refine rR<|pr 2 rfl<|fA fo63_0 rfl<|lD sc9 hp rfl rfl<|pr 1 rfl<|qq (R.addK 2 rfl rfl om) rfl<|qq (R.sliceFrom rfl rfl rfl om u9) rfl<|eN en48 rfl (zzIndex_calls (s.drop (j + 2)) 42 47 _ sM) fun v w hv => ?_
    obtain ⟨hv1, hv⟩ := hv
    have hp := hp.grN hv
    have hG := hG.trans (hv.no _)
    have hslash := (slash_iff s j).1 aM
    rcases hZ : Im.index2 (s.drop (j + 2)) 42 47 (s.drop (j + 2)).length 0 with _ | k0
    ·have hv1 : v = .int .i64 (-1) := by rw [hv1]; exact congrArg (Value.int .i64) (by rw [show (42 : UInt8).toNat = 42 from rfl, show (47 : UInt8).toNat = 47 from rfl, hZ])
     subst hv1
     refine pr 1 rfl<|nsqr<|pr 1 rfl<|qq (R.neI rfl rfl) rfl<|ns<|cF rfl<|rK<|bS<|rE<|At.blockExitNe rfl<|rX<|rY<|sq<|rQ ?_
     have hW : Im.ws s i = j := by
      rw [← hE]
      obtain ⟨m, rfl⟩ := sU m
      rw [Im.wsGo, if_pos om, if_neg (by simp [Im.isWs]; omega)]
      rw [if_pos (by have := (slash_iff s j).1 aM; omega), commentEnd_zz s (j + 2) om, hZ]; rfl
     refine rR<|pr 3 rfl<|fA fo63_1 rfl<|lD sc3 hp rfl rfl<|qq (R.gtI rfl rfl) rfl<|ns<|cD rfl (fun h9 => ?_) fun h9 => ?_
     ·refine qr<|pr 3 rfl<|fA fo63_1 rfl<|sT sc3 hp rfl fun w hp hs => ?_
      have hp : Blk _ p 63 [str s, .int .i64 ((j : Nat) : Int), .int .i64 ((d : Nat) : Int), .bool acc] := hp
      have hG := hG.trans hs
      refine nsqr<|pr 1 rfl<|nsth<|rA rfl rfl ⟨?_, ?_, hG⟩
      ·rw [hW, decide_eq_true om]
      rw [hW]; exact hp
     refine ksqr<|pr 1 rfl<|nst<|rA rfl rfl ⟨?_, ?_, hG⟩
     ·rw [hW, decide_eq_false om]
     rw [hW, show j = i from by omega]; exact hp
    have hv1 : v = .int .i64 (k0 : Int) := by rw [hv1]; exact congrArg (Value.int .i64) (by rw [show (42 : UInt8).toNat = 42 from rfl, show (47 : UInt8).toNat = 47 from rfl, hZ])
    subst hv1
    have hk0 := Sp.commentEnd_le s s.length (j + 2) (j + 2 + k0 + 2) (by rw [commentEnd_zz s (j + 2) om, hZ]; rfl)
    refine pr 1 rfl<|nsqr<|pr 1 rfl<|qq (R.neI rfl rfl) rfl<|ns<|cD rfl (fun h10 => ?_) fun h10 => ?_
    ·refine qr<|pr 2 rfl<|qq (R.addK 4 rfl rfl om) rfl<|qq (R.addTo ((j + 2 + k0 + 2 : Nat) : Int) rfl rfl (by rw [← Int.natCast_add, show j + (k0 + 4) = j + 2 + k0 + 2 from by omega]; exact wrap_nat om)) rfl<|pr 1 rfl<|ns<|rE<|At.blockExitNe rfl<|rX<|rY ?_
     obtain ⟨m, rfl⟩ := sU m
     rw [Im.wsGo, if_pos om] at hE
     rw [if_neg (by simp [Im.isWs]; omega), if_pos (by have := (slash_iff s j).1 aM; omega), commentEnd_zz s (j + 2) om, hZ] at hE
     simp only [Option.map_some] at hE
     exact cT [(0, pP p), (3, .int .i64 ((j + 2 + k0 + 2 : Nat) : Int))] rfl ⟨m, om, j + 2 + k0 + 2, rfl, hp, hG, hE, om, om, om⟩
    all_goals (exfalso; omega)
   refine rK<|bS<|rE<|At.blockExitNe rfl<|rX<|rY<|sq<|rQ ?_
   have hW : Im.ws s i = j := by
    rw [← hE]
    obtain ⟨m, rfl⟩ := sU m
    rw [Im.wsGo, if_pos om, if_neg (by simp [Im.isWs]; omega)]
    rw [if_neg (by intro hq; exact absurd ((slash_iff s j).2 om) aM)]
   refine rR<|pr 3 rfl<|fA fo63_1 rfl<|lD sc3 hp rfl rfl<|qq (R.gtI rfl rfl) rfl<|ns<|cD rfl (fun h11 => ?_) fun h11 => ?_
   ·refine qr<|pr 3 rfl<|fA fo63_1 rfl<|sT sc3 hp rfl fun w hp hs => ?_
    have hp : Blk _ p 63 [str s, .int .i64 ((j : Nat) : Int), .int .i64 ((d : Nat) : Int), .bool acc] := hp
    have hG := hG.trans hs
    refine nsqr<|pr 1 rfl<|nsth<|rA rfl rfl ⟨?_, ?_, hG⟩
    ·rw [hW, decide_eq_true om]
    rw [hW]; exact hp
   refine ksqr<|pr 1 rfl<|nst<|rA rfl rfl ⟨?_, ?_, hG⟩
   ·rw [hW, decide_eq_false om]
   rw [hW, show j = i from by omega]; exact hp
  refine rK<|bS<|rE<|At.blockExitNe rfl<|rX<|rY<|sq<|rQ ?_
  have hW : Im.ws s i = j := by
   rw [← hE]
   obtain ⟨m, rfl⟩ := sU m
   rw [Im.wsGo, if_pos om, if_neg (by simp [Im.isWs]; omega)]
   rw [if_neg om]
  refine rR<|pr 3 rfl<|fA fo63_1 rfl<|lD sc3 hp rfl rfl<|qq (R.gtI rfl rfl) rfl<|ns<|cD rfl (fun h12 => ?_) fun h12 => ?_
  ·refine qr<|pr 3 rfl<|fA fo63_1 rfl<|sT sc3 hp rfl fun w hp hs => ?_
   have hp : Blk _ p 63 [str s, .int .i64 ((j : Nat) : Int), .int .i64 ((d : Nat) : Int), .bool acc] := hp
   have hG := hG.trans hs
   refine nsqr<|pr 1 rfl<|nsth<|rA rfl rfl ⟨?_, ?_, hG⟩
   ·rw [hW, decide_eq_true om]
   rw [hW]; exact hp
  refine ksqr<|pr 1 rfl<|nst<|rA rfl rfl ⟨?_, ?_, hG⟩
  ·rw [hW, decide_eq_false om]
  rw [hW, show j = i from by omega]; exact hp
 refine rE<|rX<|rX<|rY<|sq<|rQ ?_
 have hW : Im.ws s i = j := by
  rw [← hE]
  cases m with
  | zero => rfl
  | succ m => rw [Im.wsGo, if_neg om]
 refine rR<|pr 3 rfl<|fA fo63_1 rfl<|lD sc3 hp rfl rfl<|qq (R.gtI rfl rfl) rfl<|ns<|cD rfl (fun h13 => ?_) fun h13 => ?_
 ·refine qr<|pr 3 rfl<|fA fo63_1 rfl<|sT sc3 hp rfl fun w hp hs => ?_
  have hp : Blk _ p 63 [str s, .int .i64 ((j : Nat) : Int), .int .i64 ((d : Nat) : Int), .bool acc] := hp
  have hG := hG.trans hs
  refine nsqr<|pr 1 rfl<|nsth<|rA rfl rfl ⟨?_, ?_, hG⟩
  ·rw [hW, decide_eq_true om]
  rw [hW]; exact hp
 refine ksqr<|pr 1 rfl<|nst<|rA rfl rfl ⟨?_, ?_, hG⟩
 ·rw [hW, decide_eq_false om]
 rw [hW, show j = i from by omega]; exact hp
theorem wrap_i32 {m : Nat} (h : m < 2147483648) : IntKind.i32.wrap (m : Int) = (m : Int) := by
 simp [IntKind.wrap, IntKind.signed, IntKind.bits]; omega
theorem R.strRune {P : Program} {n : Nat} {l : Fr} {w : World} {dst : Option Nat} {ty : TypeId} {pos : String} {af : Array Edge} {g : Option (Nat × Bool)} {x : Operand} {src dt : TypeId} {k : IntKind} {c : Nat} (hx : ev l x = some (.int k (c : Int))) (hs : (P.underlying src).isSome = true) (hd : P.underlying dt = some .string) : Runs P n l ⟨dst, .convert src dt x, ty, pos, af, g⟩ w (.value (str (Sp.utf8 c))) w := fun a ha => by
 have hr := run_convert_int_string (P := P) w src dt k (c : Int) hs hd
 have e2 : (Value.string (Utf8.encode (c : Int))) = str (Sp.utf8 c) := by
  simp [str, Sp.utf8, Sp.bytesOf]
 simp only [execOp, ha.ev hx]
 rw [e2] at hr
 simp [hr]
theorem cparen_calls (p : Nat) (s : List UInt8) (i d : Nat) (acc : Bool) (w0 : World) (hp : PD p s i d acc w0) (hb : s.length ≤ 1000) (hi : i ≤ s.length) :
 CR PR 66 [pP p] w0 fun v w' => v = .bool (Im.cparen s i).isSome ∧ PD p s ((Im.cparen s i).getD i) d acc w' ∧ Gr w0 w' (some p) := by
 have hG : Gr w0 w0 (some p) := Gr.refl _ _
 refine CR.of (n := 34) [(0, pP p)] Tryz.func66 rfl Tryz.ntmps66 rfl ⟨rfl, trivial⟩<|qr<|pr 1 rfl<|nsq<|rQ<|dR<|prq 2 rfl<|fQ fo63_1 rfl<|lQ sc3 hp rfl rfl<|prq 2 rfl<|fQ fo63_0 rfl<|lQ sc9 hp rfl rfl<|qw (fun w hw => R.lenS rfl u9) rfl<|Wq.split (fun w hw => R.ltI rfl rfl) rfl rfl rfl (fun h1 => ?_) (fun h1 => ?_)
 ·refine prq 3 rfl<|gw (fun w hw => R.fieldAddr fo63_0 rfl) rfl<|gw (fun w hw => R.load sc9 rfl (hp.grN hw) rfl) rfl<|prq 2 rfl<|gw (fun w hw => R.fieldAddr fo63_1 rfl) rfl<|gw (fun w hw => R.load sc3 rfl (hp.grN hw) rfl) rfl<|gw (fun w hw => R.idxS rfl rfl _ rfl om u9) rfl<|gw (fun w hw => R.eqI rfl rfl) rfl<|prq 1 rfl<|Wq.nil fun w hw => ?_
  have hp := hp.grN hw
  have hG := hG.trans (hw.no _)
  refine rS<|cD rfl (fun h2 => ?_) fun h2 => ?_
  ·refine qr<|pr 2 rfl<|fA fo63_1 rfl<|lD sc3 hp rfl rfl<|aK rfl rfl<|pr 1 rfl<|fA fo63_1 rfl<|sT sc3 hp rfl fun w hp hs => ?_
   have hp : Blk _ p 63 [str s, .int .i64 ((i + 1 : Nat) : Int), .int .i64 ((d : Nat) : Int), .bool acc] := hp
   have hG := hG.trans hs
   refine nsqr<|pr 1 rfl<|eN en38 rfl (ws_calls p s (i + 1) d acc _ hp hb om) fun v w hv => ?_
   obtain ⟨hv1, hpo, hv⟩ := hv
   obtain ⟨hwa3, hwb3⟩ := Im.ws_le s (i + 1)
   have hwb3 := hwb3 om
   clear hp
   generalize hj3 : Im.ws s (i + 1) = j3 at hv1 hpo hwa3 hwb3
   have hp := hpo
   clear hpo
   subst hv1
   have hG := hG.trans hv
   refine nsqr<|pr 1 rfl<|nsth<|rA rfl rfl ?_
   have hM : Im.cparen s i = some j3 := by rw [Im.cparen, if_pos ⟨om, om⟩, hj3]
   rw [hM]
   exact ⟨rfl, hp, hG⟩
  refine ksqr<|pr 1 rfl<|nst<|rA rfl rfl ?_
  have hM : Im.cparen s i = none := by rw [Im.cparen, if_neg om]
  rw [hM]
  exact ⟨rfl, hp, hG⟩
 refine prq 12 rfl<|Wq.nil fun w hw => ?_
 have hp := hp.grN hw
 have hG := hG.trans (hw.no _)
 refine rS<|cF rfl<|ksqr<|pr 1 rfl<|nst<|rA rfl rfl ?_
 have hM : Im.cparen s i = none := by rw [Im.cparen, if_neg om]
 rw [hM]
 exact ⟨rfl, hp, hG⟩
theorem cclose_calls (p : Nat) (s : List UInt8) (i d : Nat) (acc : Bool) (w0 : World) (hp : PD p s i d acc w0) (hb : s.length ≤ 1000) (hi : i ≤ s.length) :
 CR PR 67 [pP p] w0 fun v w' => v = .bool (Im.cclose s i).isSome ∧ PD p s ((Im.cclose s i).getD i) d acc w' ∧ Gr w0 w' (some p) := by
 have hG : Gr w0 w0 (some p) := Gr.refl _ _
 refine CR.of (n := 43) [(0, pP p)] Tryz.func67 rfl Tryz.ntmps67 rfl ⟨rfl, trivial⟩<|qr<|pr 1 rfl<|nsqr<|pr 2 rfl<|fA fo63_1 rfl<|lD sc3 hp rfl rfl<|pr 1 rfl<|nsqr<|pr 1 rfl<|eN en38 rfl (ws_calls p s i d acc _ hp hb om) fun v w hv => ?_
 obtain ⟨hv1, hpo, hv⟩ := hv
 obtain ⟨hwa1, hwb1⟩ := Im.ws_le s i
 have hwb1 := hwb1 om
 clear hp
 generalize hj1 : Im.ws s i = j1 at hv1 hpo hwa1 hwb1
 have hp := hpo
 clear hpo
 subst hv1
 have hG := hG.trans hv
 refine nsq<|rQ<|dR<|prq 2 rfl<|fQ fo63_1 rfl<|lQ sc3 hp rfl rfl<|prq 2 rfl<|fQ fo63_0 rfl<|lQ sc9 hp rfl rfl<|qw (fun w hw => R.lenS rfl u9) rfl<|Wq.split (fun w hw => R.ltI rfl rfl) rfl rfl rfl (fun h2 => ?_) (fun h2 => ?_)
 ·refine prq 3 rfl<|gw (fun w hw => R.fieldAddr fo63_0 rfl) rfl<|gw (fun w hw => R.load sc9 rfl (hp.grN hw) rfl) rfl<|prq 2 rfl<|gw (fun w hw => R.fieldAddr fo63_1 rfl) rfl<|gw (fun w hw => R.load sc3 rfl (hp.grN hw) rfl) rfl<|gw (fun w hw => R.idxS rfl rfl _ rfl om u9) rfl<|gw (fun w hw => R.eqI rfl rfl) rfl<|prq 1 rfl<|Wq.nil fun w hw => ?_
  have hp := hp.grN hw
  have hG := hG.trans (hw.no _)
  refine rS<|cD rfl (fun h3 => ?_) fun h3 => ?_
  ·refine qr<|pr 2 rfl<|fA fo63_1 rfl<|lD sc3 hp rfl rfl<|aK rfl rfl<|pr 1 rfl<|fA fo63_1 rfl<|sT sc3 hp rfl fun w hp hs => ?_
   have hp : Blk _ p 63 [str s, .int .i64 ((j1 + 1 : Nat) : Int), .int .i64 ((d : Nat) : Int), .bool acc] := hp
   have hG := hG.trans hs
   refine nsqr<|pr 1 rfl<|nsth<|rA rfl rfl ?_
   have hM : Im.cclose s i = some (j1 + 1) := by rw [Im.cclose, hj1, if_pos ⟨om, om⟩]
   rw [hM]
   exact ⟨rfl, hp, hG⟩
  refine ksqr<|pr 3 rfl<|fA fo63_1 rfl<|sT sc3 hp rfl fun w hp hs => ?_
  have hp : Blk _ p 63 [str s, .int .i64 ((i : Nat) : Int), .int .i64 ((d : Nat) : Int), .bool acc] := hp
  have hG := hG.trans hs
  refine nsqr<|pr 1 rfl<|nst<|rA rfl rfl ?_
  have hM : Im.cclose s i = none := by rw [Im.cclose, hj1, if_neg om]
  rw [hM]
  exact ⟨rfl, hp, hG⟩
 refine prq 12 rfl<|Wq.nil fun w hw => ?_
 have hp := hp.grN hw
 have hG := hG.trans (hw.no _)
 refine rS<|cF rfl<|ksqr<|pr 3 rfl<|fA fo63_1 rfl<|sT sc3 hp rfl fun w hp hs => ?_
 have hp : Blk _ p 63 [str s, .int .i64 ((i : Nat) : Int), .int .i64 ((d : Nat) : Int), .bool acc] := hp
 have hG := hG.trans hs
 refine nsqr<|pr 1 rfl<|nst<|rA rfl rfl ?_
 have hM : Im.cclose s i = none := by rw [Im.cclose, hj1, if_neg om]
 rw [hM]
 exact ⟨rfl, hp, hG⟩
theorem byteAt_take (s : List UInt8) (m k : Nat) (h : k < m) : byteAt (s.take m) k = byteAt s k := by
 simp [byteAt, List.getD_eq_getElem?_getD, List.getElem?_take, h]
theorem hexv_lt {c d : Nat} (h : Sp.hexv c = some d) : d < 16 := by
 unfold Sp.hexv at h
 (repeat' split at h) <;> simp at h <;> omega
theorem hexNum_lt (l : List UInt8) {k : Nat} (h : l.length ≤ k) : Im.hexNum l < 16 ^ k := by
 have key : ∀ (l : List UInt8) (n : Nat), l.foldl (fun n c => 16 * n + (Sp.hexv c.toNat).getD 0) n < (n + 1) * 16 ^ l.length := by
  intro l
  induction l with
  | nil => intro n; simp
  | cons c r ih =>
   intro n
   rw [List.foldl_cons, List.length_cons]
   have h1 := ih (16 * n + (Sp.hexv c.toNat).getD 0)
   have h2 : (Sp.hexv c.toNat).getD 0 < 16 := by
    cases hq : Sp.hexv c.toNat with
    | none => simp
    | some d => exact hexv_lt hq
   refine Nat.lt_of_lt_of_le h1 ?_
   rw [Nat.pow_succ, Nat.mul_comm (16 ^ r.length) 16, ← Nat.mul_assoc]
   exact Nat.mul_le_mul_right _ om
 have h1 := key l 0
 rw [Nat.zero_add, Nat.one_mul] at h1
 exact Nat.lt_of_lt_of_le h1 (Nat.pow_le_pow_right dC h)
theorem escape_im_calls (p : Nat) (s : List UInt8) (i d : Nat) (acc : Bool) (w0 : World) (hp : PD p s i d acc w0) (hb : s.length ≤ 1000) (hi : i ≤ s.length) :
 CR PR 78 [pP p] w0 fun v w' => PRes p s d acc w0 str (Im.escape s i) v w' := by
 have hG : Gr w0 w0 (some p) := Gr.refl _ _
 refine CR.of (n := 160) [(0, pP p)] Tryz.func78 rfl Tryz.ntmps78 rfl ⟨rfl, trivial⟩<|qr<|pr 2 rfl<|nsq<|rQ<|dR<|prq 2 rfl<|fQ fo63_0 rfl<|lQ sc9 hp rfl rfl<|qw (fun w hw => R.lenS rfl u9) rfl<|prq 2 rfl<|fQ fo63_1 rfl<|lQ sc3 hp rfl rfl<|qw (fun w hw => R.addK 2 rfl rfl om) rfl<|Wq.split (fun w hw => R.ltI rfl rfl) rfl rfl rfl (fun h1 => ?_) (fun h1 => ?_)
 ·refine prq 12 rfl<|Wq.nil fun w hw => ?_
  have hp := hp.grN hw
  have hG := hG.trans (hw.no _)
  refine rS<|cV rfl<|qr<|eN en21 rfl (errNew_calls _ _) fun v w hv => ?_
  obtain ⟨⟨et, eu, rfl⟩, hv⟩ := hv
  have hp := hp.grN hv
  have hG := hG.trans (hv.no _)
  refine pr 2 rfl<|nsth<|At.res2 rfl rfl rfl ?_
  have hM : Im.escape s i = none := by rw [Im.escape, if_pos om]
  rw [hM]
  exact ⟨_, _, _, rfl, ⟨_, _, rfl⟩, hp, hG⟩
 refine prq 3 rfl<|gw (fun w hw => R.fieldAddr fo63_0 rfl) rfl<|gw (fun w hw => R.load sc9 rfl (hp.grN hw) rfl) rfl<|prq 2 rfl<|gw (fun w hw => R.fieldAddr fo63_1 rfl) rfl<|gw (fun w hw => R.load sc3 rfl (hp.grN hw) rfl) rfl<|gw (fun w hw => R.idxS rfl rfl _ rfl om u9) rfl<|gw (fun w hw => R.neI rfl rfl) rfl<|prq 1 rfl<|Wq.nil fun w hw => ?_
 have hp := hp.grN hw
 have hG := hG.trans (hw.no _)
 refine rS<|cD rfl (fun h2 => ?_) fun h2 => ?_
 ·refine qr<|eN en21 rfl (errNew_calls _ _) fun v w hv => ?_
  obtain ⟨⟨et, eu, rfl⟩, hv⟩ := hv
  have hp := hp.grN hv
  have hG := hG.trans (hv.no _)
  refine pr 2 rfl<|nsth<|At.res2 rfl rfl rfl ?_
  have hM : Im.escape s i = none := by rw [Im.escape, if_pos om]
  rw [hM]
  exact ⟨_, _, _, rfl, ⟨_, _, rfl⟩, hp, hG⟩
 refine ksqr<|pr 2 rfl<|fA fo63_1 rfl<|lD sc3 hp rfl rfl<|aK rfl rfl<|pr 1 rfl<|nsqr<|pr 2 rfl<|fA fo63_0 rfl<|lD sc9 hp rfl rfl<|pr 1 rfl<|qq (R.idxS rfl rfl _ rfl om u9) rfl<|pr 1 rfl<|nsq<|rO<|qr<|pr 1 rfl<|W.split (R.eqI rfl rfl) rfl rfl rfl (fun h3 => ?_) (fun h3 => ?_)
 ·refine pr 9 rfl<|ns<|cV rfl<|qr<|eN en21 rfl (errNew_calls _ _) fun v w hv => ?_
  obtain ⟨⟨et, eu, rfl⟩, hv⟩ := hv
  have hp := hp.grN hv
  have hG := hG.trans (hv.no _)
  refine pr 2 rfl<|nst<|rC<|rH<|At.res2 rfl rfl rfl ?_
  have hM : Im.escape s i = none := by rw [Im.escape, if_neg om, if_pos om]
  rw [hM]
  exact ⟨_, _, _, rfl, ⟨_, _, rfl⟩, hp, hG⟩
 refine pr 2 rfl<|gg (R.eqI rfl rfl) rfl<|W.split (R.pickF rfl rfl) rfl rfl rfl (fun h4 => ?_) (fun h4 => ?_)
 ·refine pr 5 rfl<|ns<|cV rfl<|qr<|eN en21 rfl (errNew_calls _ _) fun v w hv => ?_
  obtain ⟨⟨et, eu, rfl⟩, hv⟩ := hv
  have hp := hp.grN hv
  have hG := hG.trans (hv.no _)
  refine pr 2 rfl<|nst<|rC<|rH<|At.res2 rfl rfl rfl ?_
  have hM : Im.escape s i = none := by rw [Im.escape, if_neg om, if_pos om]
  rw [hM]
  exact ⟨_, _, _, rfl, ⟨_, _, rfl⟩, hp, hG⟩
 refine pr 2 rfl<|W.gsplit rfl (R.eqI rfl rfl) rfl rfl rfl (fun h5 => ?_) (fun h5 => ?_)
 ·refine pr 2 rfl<|ns<|cV rfl<|qr<|eN en21 rfl (errNew_calls _ _) fun v w hv => ?_
  obtain ⟨⟨et, eu, rfl⟩, hv⟩ := hv
  have hp := hp.grN hv
  have hG := hG.trans (hv.no _)
  refine pr 2 rfl<|nst<|rC<|rH<|At.res2 rfl rfl rfl ?_
  have hM : Im.escape s i = none := by rw [Im.escape, if_neg om, if_pos om]
  rw [hM]
  exact ⟨_, _, _, rfl, ⟨_, _, rfl⟩, hp, hG⟩
 refine pr 2 rfl<|ns<|cF rfl<|qr<|pr 1 rfl<|eN en87 rfl (hexDigit_calls _ _) fun v w hv => ?_
 obtain ⟨rfl, hv⟩ := hv
 have hp := hp.grN hv
 have hG := hG.trans (hv.no _)
 cases hb5 : Im.hexDigit (byteAt s (i + 1))
 ·refine pr 1 rfl<|ns<|cF rfl<|rK<|bS<|qr<|pr 2 rfl<|fA fo63_0 rfl<|lD sc9 hp rfl rfl<|pr 2 rfl<|aK rfl rfl<|qq (R.sliceS rfl rfl rfl rfl rfl om om u9) rfl<|pr 1 rfl<|nsqr<|pr 2 rfl<|fA fo63_1 rfl<|lD sc3 hp rfl rfl<|qq (R.addK 2 rfl rfl om) rfl<|pr 1 rfl<|fA fo63_1 rfl<|sT sc3 hp rfl fun w hp hs => ?_
  have hp : Blk _ p 63 [str s, .int .i64 ((i + 2 : Nat) : Int), .int .i64 ((d : Nat) : Int), .bool acc] := hp
  have hG := hG.trans hs
  refine nsqr<|pr 3 rfl<|nst<|At.res2 rfl rfl rfl ?_
  have hM : Im.escape s i = some ((s.drop (i + 1)).take 1, i + 2) := by rw [Im.escape, if_neg om, if_neg om, if_neg (by rw [‹Im.hexDigit _ = false›]; decide)]
  rw [hM]
  refine ⟨?_, hp, hG⟩
  rw [show i + 1 + 1 - (i + 1) = 1 from by omega]
 refine pr 1 rfl<|ns<|cV rfl<|qr<|pr 1 rfl<|ns<|C.cut (fun l w' => ∃ j : Nat, l = [(0, pP p), (4, .int .i64 ((i + 1 : Nat) : Int)), (6, .int .i64 (j : Int))] ∧ PD p s i d acc w' ∧ Gr w0 w' (some p) ∧ Im.hexEnd s 6 (i + 1) = j ∧ i + 2 ≤ j ∧ j ≤ i + 7 ∧ j ≤ s.length ∧ (∀ k, i + 1 ≤ k → k < j → Im.hexDigit (byteAt s k) = true)) ?_ ?_
 ·refine qr<|pr 2 rfl<|ns<|rO<|sB [(0, pP p), (4, .int .i64 ((i + 1 : Nat) : Int)), (6, .int .i64 ((i + 1 : Nat) : Int))] rfl<|C.loop (fun m l w' => ∃ j : Nat, l = [(0, pP p), (4, .int .i64 ((i + 1 : Nat) : Int)), (6, .int .i64 (j : Int))] ∧ PD p s i d acc w' ∧ Gr w0 w' (some p) ∧ Im.hexEnd s m j = Im.hexEnd s 6 (i + 1) ∧ j + m = i + 7 ∧ i + 1 ≤ j ∧ j ≤ s.length ∧ (∀ k, i + 1 ≤ k → k < j → Im.hexDigit (byteAt s k) = true)) (6) (⟨i + 1, rfl, hp, hG, rfl, om, om, om, fun k h1 h2 => by omega⟩) ?_
  rintro m l w ⟨j, rfl, hp, hG, hE, hm, hij, hjl, hall⟩
  refine qqr<|pr 2 rfl<|qq (R.addK 6 rfl rfl om) rfl<|W.split (R.ltI rfl rfl) rfl rfl rfl (fun h7 => ?_) (fun h7 => ?_)
  ·refine pr 4 rfl<|gg (R.fieldAddr fo63_0 rfl) rfl<|gg (R.load sc9 rfl hp rfl) rfl<|gg (R.lenS rfl u9) rfl<|gg (R.ltI rfl rfl) rfl<|W.split (R.pickT rfl rfl) rfl rfl rfl (fun h8 => ?_) (fun h8 => ?_)
   ·refine pr 3 rfl<|gg (R.fieldAddr fo63_0 rfl) rfl<|gg (R.load sc9 rfl hp rfl) rfl<|pr 1 rfl<|gg (R.idxS rfl rfl _ rfl om u9) rfl<|gN rfl en87 rfl (hexDigit_calls _ _) fun v w hv => ?_
    obtain ⟨rfl, hv⟩ := hv
    have hp := hp.grN hv
    have hG := hG.trans (hv.no _)
    cases hb8 : Im.hexDigit (byteAt s j)
    ·refine pr 1 rfl<|ns<|cF rfl<|rE<|rX<|rX<|rY ?_
     have hEnd : Im.hexEnd s 6 (i + 1) = j := by
      rw [← hE]
      cases m with
      | zero => rfl
      | succ m => rw [Im.hexEnd, if_neg (by intro hq; first | (have := hq.1; omega) | exact absurd hq.2 (by rw [‹Im.hexDigit (byteAt s j) = false›]; decide))]
     have hj2 : i + 2 ≤ j := by
      rw [← hEnd, Im.hexEnd, if_pos ⟨om, by assumption⟩]; exact (Im.hexEnd_le s 5 (i + 2)).1
     exact cT [(0, pP p), (4, .int .i64 ((i + 1 : Nat) : Int)), (6, .int .i64 (j : Int))] rfl ⟨j, rfl, hp, hG, hEnd, hj2, om, hjl, hall⟩
    refine pr 1 rfl<|ns<|cV rfl<|ksq<|rO<|rK<|bS<|rR<|pr 1 rfl<|aK rfl rfl<|pr 1 rfl<|rN ?_
    obtain ⟨m, rfl⟩ := sU m
    have hjd : Im.hexDigit (byteAt s j) = true := by assumption
    rw [Im.hexEnd, if_pos ⟨om, hjd⟩] at hE
    exact At.cut [(0, pP p), (4, .int .i64 ((i + 1 : Nat) : Int)), (6, .int .i64 ((j + 1 : Nat) : Int))] ⟨rfl, rfl, rfl, trivial⟩ ⟨m, om, j + 1, rfl, hp, hG, hE, om, om, om, fun k h1 h2 => by
     by_cases hk : k = j
     ·subst hk; exact hjd
     exact hall k h1 om⟩
   refine pr 9 rfl<|ns<|cF rfl<|rE<|rX<|rX<|rY ?_
   have hEnd : Im.hexEnd s 6 (i + 1) = j := by
    rw [← hE]
    cases m with
    | zero => rfl
    | succ m => rw [Im.hexEnd, if_neg (by intro hq; first | (have := hq.1; omega) | exact absurd hq.2 (by rw [‹Im.hexDigit (byteAt s j) = false›]; decide))]
   have hj2 : i + 2 ≤ j := by
    rw [← hEnd, Im.hexEnd, if_pos ⟨om, by assumption⟩]; exact (Im.hexEnd_le s 5 (i + 2)).1
   exact cT [(0, pP p), (4, .int .i64 ((i + 1 : Nat) : Int)), (6, .int .i64 (j : Int))] rfl ⟨j, rfl, hp, hG, hEnd, hj2, om, hjl, hall⟩
  refine pr 18 rfl<|ns<|cF rfl<|rE<|rX<|rX<|rY ?_
  have hEnd : Im.hexEnd s 6 (i + 1) = j := by
   rw [← hE]
   cases m with
   | zero => rfl
   | succ m => rw [Im.hexEnd, if_neg (by intro hq; first | (have := hq.1; omega) | exact absurd hq.2 (by rw [‹Im.hexDigit (byteAt s j) = false›]; decide))]
  have hj2 : i + 2 ≤ j := by
   rw [← hEnd, Im.hexEnd, if_pos ⟨om, by assumption⟩]; exact (Im.hexEnd_le s 5 (i + 2)).1
  exact cT [(0, pP p), (4, .int .i64 ((i + 1 : Nat) : Int)), (6, .int .i64 (j : Int))] rfl ⟨j, rfl, hp, hG, hEnd, hj2, om, hjl, hall⟩
 rintro l w ⟨j, rfl, hp, hG, hEnd, hj2, hj7, hjl, hall⟩
 refine qr<|pr 2 rfl<|fA fo63_0 rfl<|lD sc9 hp rfl rfl<|pr 2 rfl<|qq (R.sliceS rfl rfl rfl rfl rfl om om u9) rfl<|eN en88 rfl (strParseUint16_calls ((s.drop (i + 1)).take (j - (i + 1))) _ (by intro hq; have := congrArg List.length hq; simp only [List.length_take, List.length_drop, List.length_nil] at this; omega) (by simp only [List.length_take]; omega) (fun k hk => by simp only [List.length_take, List.length_drop] at hk; rw [byteAt_take _ _ _ om, byteAt_drop]; exact hall (i + 1 + k) om om)) fun v w hv => ?_
 obtain ⟨rfl, hv⟩ := hv
 have hp := hp.grN hv
 have hG := hG.trans (hv.no _)
 have hnum : Im.hexNum ((s.drop (i + 1)).take (j - (i + 1))) < 16777216 := Nat.lt_of_lt_of_le (hexNum_lt _ (k := 6) (by simp only [List.length_take]; omega)) dC
 refine pr 5 rfl<|nsq<|qr<|pr 2 rfl<|fA fo63_0 rfl<|lD sc9 hp rfl rfl<|qq (R.lenS rfl u9) rfl<|pr 1 rfl<|qq (R.gtI rfl rfl) rfl<|ns<|cD rfl (fun h10 => ?_) fun h10 => ?_
 ·refine qr<|pr 2 rfl<|fA fo63_0 rfl<|lD sc9 hp rfl rfl<|pr 1 rfl<|qq (R.idxS rfl rfl _ rfl om u9) rfl<|ns<|rO<|qr<|qq (R.eqI rfl rfl) rfl<|pr 1 rfl<|ns<|cD rfl (fun h11 => ?_) fun h11 => ?_
  ·refine qr<|pr 1 rfl<|aK rfl rfl<|pr 1 rfl<|nsqr<|pr 2 rfl<|fA fo63_0 rfl<|lD sc9 hp rfl rfl<|qq (R.lenS rfl u9) rfl<|pr 1 rfl<|W.split (R.gtI rfl rfl) rfl rfl rfl (fun h12 => ?_) (fun h12 => ?_)
   ·refine pr 3 rfl<|gg (R.fieldAddr fo63_0 rfl) rfl<|gg (R.load sc9 rfl hp rfl) rfl<|pr 1 rfl<|gg (R.idxS rfl rfl _ rfl om u9) rfl<|W.gsplit rfl (R.eqI rfl rfl) rfl rfl rfl (fun h13 => ?_) (fun h13 => ?_)
    ·refine pr 1 rfl<|ns<|cV rfl<|rR<|pr 1 rfl<|aK rfl rfl<|pr 1 rfl<|nbs<|qr<|pr 3 rfl<|fA fo63_1 rfl<|sT sc3 hp rfl fun w hp hs => ?_
     have hp : Blk _ p 63 [str s, .int .i64 ((j + 1 + 1 : Nat) : Int), .int .i64 ((d : Nat) : Int), .bool acc] := hp
     have hG := hG.trans hs
     refine nsqr<|pr 1 rfl<|qq (R.cv rfl u21 kR (i' := ((Im.hexNum ((s.drop (i + 1)).take (j - (i + 1))) : Nat) : Int)) (wrap_i32 om)) rfl<|qq (R.strRune rfl kR u9) rfl<|pr 2 rfl<|nst<|rC<|rH<|At.res2 rfl rfl rfl ?_
     have hS : Im.hexSkip s j = j + 1 + 1 := by
      unfold Im.hexSkip
      (repeat' split) <;> omega
     have hM : Im.escape s i = some (Sp.utf8 (Im.hexNum ((s.drop (i + 1)).take (j - (i + 1)))), j + 1 + 1) := by rw [Im.escape, if_neg om, if_neg om, if_pos aM, hEnd, hS]
     rw [hM]
     exact ⟨rfl, hp, hG⟩
    refine pr 1 rfl<|ns<|cF rfl<|rK<|bS<|qr<|pr 3 rfl<|fA fo63_1 rfl<|sT sc3 hp rfl fun w hp hs => ?_
    have hp : Blk _ p 63 [str s, .int .i64 ((j + 1 : Nat) : Int), .int .i64 ((d : Nat) : Int), .bool acc] := hp
    have hG := hG.trans hs
    refine nsqr<|pr 1 rfl<|qq (R.cv rfl u21 kR (i' := ((Im.hexNum ((s.drop (i + 1)).take (j - (i + 1))) : Nat) : Int)) (wrap_i32 om)) rfl<|qq (R.strRune rfl kR u9) rfl<|pr 2 rfl<|nst<|rC<|rH<|At.res2 rfl rfl rfl ?_
    have hS : Im.hexSkip s j = j + 1 := by
     unfold Im.hexSkip
     (repeat' split) <;> omega
    have hM : Im.escape s i = some (Sp.utf8 (Im.hexNum ((s.drop (i + 1)).take (j - (i + 1)))), j + 1) := by rw [Im.escape, if_neg om, if_neg om, if_pos aM, hEnd, hS]
    rw [hM]
    exact ⟨rfl, hp, hG⟩
   refine pr 9 rfl<|ns<|cF rfl<|rK<|bS<|qr<|pr 3 rfl<|fA fo63_1 rfl<|sT sc3 hp rfl fun w hp hs => ?_
   have hp : Blk _ p 63 [str s, .int .i64 ((j + 1 : Nat) : Int), .int .i64 ((d : Nat) : Int), .bool acc] := hp
   have hG := hG.trans hs
   refine nsqr<|pr 1 rfl<|qq (R.cv rfl u21 kR (i' := ((Im.hexNum ((s.drop (i + 1)).take (j - (i + 1))) : Nat) : Int)) (wrap_i32 om)) rfl<|qq (R.strRune rfl kR u9) rfl<|pr 2 rfl<|nst<|rC<|rH<|At.res2 rfl rfl rfl ?_
   have hS : Im.hexSkip s j = j + 1 := by
    unfold Im.hexSkip
    (repeat' split) <;> omega
   have hM : Im.escape s i = some (Sp.utf8 (Im.hexNum ((s.drop (i + 1)).take (j - (i + 1)))), j + 1) := by rw [Im.escape, if_neg om, if_neg om, if_pos aM, hEnd, hS]
   rw [hM]
   exact ⟨rfl, hp, hG⟩
  refine qqr<|qq (R.eqI rfl rfl) rfl<|pr 1 rfl<|ns<|cD rfl (fun h14 => ?_) fun h14 => ?_
  ·have h14i := h14
   rw [decide_eq_true h14i]
   refine ks<|cV rfl<|rR<|pr 1 rfl<|aK rfl rfl<|pr 1 rfl<|nbs<|qr<|pr 3 rfl<|fA fo63_1 rfl<|sT sc3 hp rfl fun w hp hs => ?_
   have hp : Blk _ p 63 [str s, .int .i64 ((j + 1 : Nat) : Int), .int .i64 ((d : Nat) : Int), .bool acc] := hp
   have hG := hG.trans hs
   refine nsqr<|pr 1 rfl<|qq (R.cv rfl u21 kR (i' := ((Im.hexNum ((s.drop (i + 1)).take (j - (i + 1))) : Nat) : Int)) (wrap_i32 om)) rfl<|qq (R.strRune rfl kR u9) rfl<|pr 2 rfl<|nst<|rC<|rH<|At.res2 rfl rfl rfl ?_
   have hS : Im.hexSkip s j = j + 1 := by
    unfold Im.hexSkip
    (repeat' split) <;> omega
   have hM : Im.escape s i = some (Sp.utf8 (Im.hexNum ((s.drop (i + 1)).take (j - (i + 1)))), j + 1) := by rw [Im.escape, if_neg om, if_neg om, if_pos aM, hEnd, hS]
   rw [hM]
   exact ⟨rfl, hp, hG⟩
  have h14i := h14
  rw [decide_eq_false h14i]
  refine qr<|qq (R.eqI rfl rfl) rfl<|pr 1 rfl<|ns<|cD rfl (fun h15 => ?_) fun h15 => ?_
  ·have h15i := h15
   rw [decide_eq_true h15i]
   refine ks<|cV rfl<|rR<|pr 1 rfl<|aK rfl rfl<|pr 1 rfl<|nbs<|qr<|pr 3 rfl<|fA fo63_1 rfl<|sT sc3 hp rfl fun w hp hs => ?_
   have hp : Blk _ p 63 [str s, .int .i64 ((j + 1 : Nat) : Int), .int .i64 ((d : Nat) : Int), .bool acc] := hp
   have hG := hG.trans hs
   refine nsqr<|pr 1 rfl<|qq (R.cv rfl u21 kR (i' := ((Im.hexNum ((s.drop (i + 1)).take (j - (i + 1))) : Nat) : Int)) (wrap_i32 om)) rfl<|qq (R.strRune rfl kR u9) rfl<|pr 2 rfl<|nst<|rC<|rH<|At.res2 rfl rfl rfl ?_
   have hS : Im.hexSkip s j = j + 1 := by
    unfold Im.hexSkip
    (repeat' split) <;> omega
   have hM : Im.escape s i = some (Sp.utf8 (Im.hexNum ((s.drop (i + 1)).take (j - (i + 1)))), j + 1) := by rw [Im.escape, if_neg om, if_neg om, if_pos aM, hEnd, hS]
   rw [hM]
   exact ⟨rfl, hp, hG⟩
  have h15i := h15
  rw [decide_eq_false h15i]
  refine qr<|qq (R.eqI rfl rfl) rfl<|pr 1 rfl<|ns<|cD rfl (fun h16 => ?_) fun h16 => ?_
  ·have h16i := h16
   rw [decide_eq_true h16i]
   refine ks<|cV rfl<|rR<|pr 1 rfl<|aK rfl rfl<|pr 1 rfl<|nbs<|qr<|pr 3 rfl<|fA fo63_1 rfl<|sT sc3 hp rfl fun w hp hs => ?_
   have hp : Blk _ p 63 [str s, .int .i64 ((j + 1 : Nat) : Int), .int .i64 ((d : Nat) : Int), .bool acc] := hp
   have hG := hG.trans hs
   refine nsqr<|pr 1 rfl<|qq (R.cv rfl u21 kR (i' := ((Im.hexNum ((s.drop (i + 1)).take (j - (i + 1))) : Nat) : Int)) (wrap_i32 om)) rfl<|qq (R.strRune rfl kR u9) rfl<|pr 2 rfl<|nst<|rC<|rH<|At.res2 rfl rfl rfl ?_
   have hS : Im.hexSkip s j = j + 1 := by
    unfold Im.hexSkip
    (repeat' split) <;> omega
   have hM : Im.escape s i = some (Sp.utf8 (Im.hexNum ((s.drop (i + 1)).take (j - (i + 1)))), j + 1) := by rw [Im.escape, if_neg om, if_neg om, if_pos aM, hEnd, hS]
   rw [hM]
   exact ⟨rfl, hp, hG⟩
  have h16i := h16
  rw [decide_eq_false h16i]
  refine rR<|W.split (R.eqI rfl rfl) rfl rfl rfl (fun h17 => ?_) (fun h17 => ?_)
  ·refine pr 1 rfl<|ns<|cV rfl<|rR<|pr 1 rfl<|aK rfl rfl<|pr 1 rfl<|nbs<|qr<|pr 3 rfl<|fA fo63_1 rfl<|sT sc3 hp rfl fun w hp hs => ?_
   have hp : Blk _ p 63 [str s, .int .i64 ((j + 1 : Nat) : Int), .int .i64 ((d : Nat) : Int), .bool acc] := hp
   have hG := hG.trans hs
   refine nsqr<|pr 1 rfl<|qq (R.cv rfl u21 kR (i' := ((Im.hexNum ((s.drop (i + 1)).take (j - (i + 1))) : Nat) : Int)) (wrap_i32 om)) rfl<|qq (R.strRune rfl kR u9) rfl<|pr 2 rfl<|nst<|rC<|rH<|At.res2 rfl rfl rfl ?_
   have hS : Im.hexSkip s j = j + 1 := by
    unfold Im.hexSkip
    (repeat' split) <;> omega
   have hM : Im.escape s i = some (Sp.utf8 (Im.hexNum ((s.drop (i + 1)).take (j - (i + 1)))), j + 1) := by rw [Im.escape, if_neg om, if_neg om, if_pos aM, hEnd, hS]
   rw [hM]
   exact ⟨rfl, hp, hG⟩
  refine pr 1 rfl<|ns<|cF rfl<|rK<|bS<|qr<|pr 3 rfl<|fA fo63_1 rfl<|sT sc3 hp rfl fun w hp hs => ?_
  have hp : Blk _ p 63 [str s, .int .i64 ((j : Nat) : Int), .int .i64 ((d : Nat) : Int), .bool acc] := hp
  have hG := hG.trans hs
  refine nsqr<|pr 1 rfl<|qq (R.cv rfl u21 kR (i' := ((Im.hexNum ((s.drop (i + 1)).take (j - (i + 1))) : Nat) : Int)) (wrap_i32 om)) rfl<|qq (R.strRune rfl kR u9) rfl<|pr 2 rfl<|nst<|rC<|rH<|At.res2 rfl rfl rfl ?_
  have hS : Im.hexSkip s j = j := by
   unfold Im.hexSkip
   (repeat' split) <;> omega
  have hM : Im.escape s i = some (Sp.utf8 (Im.hexNum ((s.drop (i + 1)).take (j - (i + 1)))), j) := by rw [Im.escape, if_neg om, if_neg om, if_pos aM, hEnd, hS]
  rw [hM]
  exact ⟨rfl, hp, hG⟩
 refine ksqr<|pr 3 rfl<|fA fo63_1 rfl<|sT sc3 hp rfl fun w hp hs => ?_
 have hp : Blk _ p 63 [str s, .int .i64 ((j : Nat) : Int), .int .i64 ((d : Nat) : Int), .bool acc] := hp
 have hG := hG.trans hs
 refine nsqr<|pr 1 rfl<|qq (R.cv rfl u21 kR (i' := ((Im.hexNum ((s.drop (i + 1)).take (j - (i + 1))) : Nat) : Int)) (wrap_i32 om)) rfl<|qq (R.strRune rfl kR u9) rfl<|pr 2 rfl<|nst<|rC<|rH<|At.res2 rfl rfl rfl ?_
 have hS : Im.hexSkip s j = j := by
  unfold Im.hexSkip
  (repeat' split) <;> omega
 have hM : Im.escape s i = some (Sp.utf8 (Im.hexNum ((s.drop (i + 1)).take (j - (i + 1)))), j) := by rw [Im.escape, if_neg om, if_neg om, if_pos aM, hEnd, hS]
 rw [hM]
 exact ⟨rfl, hp, hG⟩
theorem imName_calls (p : Nat) (s : List UInt8) (i d : Nat) (acc : Bool) (w0 : World) (hp : PD p s i d acc w0) (hb : s.length ≤ 1000) (hi : i ≤ s.length) :
 CR PR 64 [pP p] w0 fun v w' => PRes p s d acc w0 str (Im.name s i) v w' := by
 have hG : Gr w0 w0 (some p) := Gr.refl _ _
 refine CR.of (n := 87) [(0, pP p)] Tryz.func64 rfl Tryz.ntmps64 rfl ⟨rfl, trivial⟩<|qr<|pr 2 rfl<|ns<|C.scope<|qr<|pr 2 rfl<|fA fo63_1 rfl<|lD sc3 hp rfl rfl<|pr 1 rfl<|nsq<|C.label<|rS<|C.cut (fun l w' => ∃ (out : List UInt8) (j k : Nat), l = [(0, pP p), (2, str out), (4, .int .i64 (j : Int))] ∧ PD p s k d acc w' ∧ Gr w0 w' (some p) ∧ Im.nameGo s (s.length + 1) [] i = some (out, j) ∧ i ≤ j ∧ j ≤ s.length) ?_ ?_
 ·refine rO<|sB [(0, pP p), (2, str []), (4, .int .i64 (i : Int))] rfl<|C.loop (fun m l w' => ∃ (out : List UInt8) (j k : Nat), l = [(0, pP p), (2, str out), (4, .int .i64 (j : Int))] ∧ PD p s k d acc w' ∧ Gr w0 w' (some p) ∧ Im.nameGo s m out j = Im.nameGo s (s.length + 1) [] i ∧ s.length < j + m ∧ i ≤ j ∧ j ≤ s.length ∧ out.length ≤ 4 * (j - i)) (s.length + 1) (⟨[], i, i, rfl, hp, hG, rfl, om, om, om, by simp⟩) ?_
  rintro mo l w ⟨out, j, k, rfl, hp, hG, hE, hm, hij, hjl, hol⟩
  refine qqr<|pr 3 rfl<|fA fo63_0 rfl<|lD sc9 hp rfl rfl<|qq (R.lenS rfl u9) rfl<|qq (R.ltI rfl rfl) rfl<|ns<|cD rfl (fun h1 => ?_) fun h1 => ?_
  ·refine ks<|rO<|qr<|pr 2 rfl<|fA fo63_0 rfl<|lD sc9 hp rfl rfl<|pr 1 rfl<|qq (R.idxS rfl rfl _ rfl om u9) rfl<|pr 1 rfl<|ns<|rO<|qr<|pr 1 rfl<|eN en77 rfl (nameChar_calls _ _) fun v w hv => ?_
   obtain ⟨rfl, hv⟩ := hv
   have hp := hp.grN hv
   have hG := hG.trans (hv.no _)
   cases hb1 : Im.nameChar (byteAt s j)
   ·refine pr 1 rfl<|ns<|cF rfl<|qr<|pr 1 rfl<|qq (R.eqI rfl rfl) rfl<|pr 1 rfl<|ns<|cD rfl (fun h3 => ?_) fun h3 => ?_
    ·refine qr<|pr 3 rfl<|fA fo63_1 rfl<|sT sc3 hp rfl fun w hp hs => ?_
     have hp : Blk _ p 63 [str s, .int .i64 ((j : Nat) : Int), .int .i64 ((d : Nat) : Int), .bool acc] := hp
     have hG := hG.trans hs
     refine nsqr<|pr 1 rfl<|eN en78 rfl (escape_im_calls p s j d acc _ hp hb om) fun v w hv => ?_
     rcases hM4 : Im.escape s j with _ | ⟨x4, j4⟩
     ·rw [hM4] at hv
      obtain ⟨rr4, ee4, j4, rfl, ⟨et4, eu4, rfl⟩, hpo, hv⟩ := hv
      clear hp
      have hp := hpo
      clear hpo
      have hG := hG.trans hv
      refine pr 5 rfl<|nsq<|qr<|pr 1 rfl<|qq (R.neNilT ifc44 rfl) rfl<|ns<|cV rfl<|qr<|pr 3 rfl<|nsth<|rC<|rC<|rH<|rC<|rH<|At.noRet ?_
      obtain ⟨mo, rfl⟩ := sU mo
      rw [Im.nameGo, if_pos om] at hE
      rw [if_neg (by rw [‹Im.nameChar (byteAt s j) = false›]; decide), if_pos om, hM4] at hE
      refine At.res2 rfl rfl rfl ?_
      have hN : Im.name s i = none := by rw [Im.name, ← hE]
      rw [hN]
      exact ⟨_, _, _, rfl, ⟨_, _, rfl⟩, hp, hG⟩
     rw [hM4] at hv
     obtain ⟨rfl, hpo, hv⟩ := hv
     clear hp
     have hp := hpo
     clear hpo
     have hG := hG.trans hv
     obtain ⟨hea4, heb4, hec4⟩ := Im.escape_le hM4
     refine pr 5 rfl<|nsq<|qr<|pr 1 rfl<|qq (R.neNilF ifc44 rfl) rfl<|ns<|cF rfl<|ksqr<|pr 2 rfl<|fA fo63_1 rfl<|lD sc3 hp rfl rfl<|pr 1 rfl<|nsr<|pr 2 rfl<|aS rfl rfl<|pr 1 rfl<|nB<|rB ?_
     obtain ⟨mo, rfl⟩ := sU mo
     rw [Im.nameGo, if_pos om] at hE
     rw [if_neg (by rw [‹Im.nameChar (byteAt s j) = false›]; decide), if_pos om, hM4] at hE
     exact cT [(0, pP p), (2, str (out ++ x4)), (4, .int .i64 (j4 : Int))] rfl ⟨mo, om, _, _, _, rfl, hp, hG, hE, om, om, om, by rw [List.length_append]; omega⟩
    refine rE<|At.blockExitNe rfl<|At.blockExitNe rfl<|rX<|rY ?_
    have hS : Im.nameGo s (s.length + 1) [] i = some (out, j) := by
     rw [← hE]
     obtain ⟨mo, rfl⟩ := sU mo
     rw [Im.nameGo, if_pos om, if_neg (by rw [‹Im.nameChar (byteAt s j) = false›]; decide), if_neg om]
    exact cT [(0, pP p), (2, str out), (4, .int .i64 (j : Int))] rfl ⟨out, j, _, rfl, hp, hG, hS, om, om⟩
   refine pr 1 rfl<|ns<|cV rfl<|qr<|pr 2 rfl<|nsq<|rO<|sB [(0, pP p), (2, str out), (4, .int .i64 (j : Int)), (6, .int .i64 (j : Int))] rfl<|C.loop (fun m l w' => ∃ q : Nat, l = [(0, pP p), (2, str out), (4, .int .i64 (q : Int)), (6, .int .i64 (j : Int))] ∧ PD p s k d acc w' ∧ Gr w0 w' (some p) ∧ Im.nameRun s m q = Im.nameRun s s.length j ∧ s.length ≤ q + m ∧ j ≤ q ∧ q ≤ s.length) (s.length) (⟨j, rfl, hp, hG, rfl, om, om, om⟩) ?_
   rintro m l w ⟨q, rfl, hp, hG, hQ, hmq, hjq, hql⟩
   refine qqr<|pr 3 rfl<|fA fo63_0 rfl<|lD sc9 hp rfl rfl<|qq (R.lenS rfl u9) rfl<|W.split (R.ltI rfl rfl) rfl rfl rfl (fun h5 => ?_) (fun h5 => ?_)
   ·refine pr 3 rfl<|gg (R.fieldAddr fo63_0 rfl) rfl<|gg (R.load sc9 rfl hp rfl) rfl<|pr 1 rfl<|gg (R.idxS rfl rfl _ rfl om u9) rfl<|gN rfl en77 rfl (nameChar_calls _ _) fun v w hv => ?_
    obtain ⟨rfl, hv⟩ := hv
    have hp := hp.grN hv
    have hG := hG.trans (hv.no _)
    cases hb5 : Im.nameChar (byteAt s q)
    ·refine pr 1 rfl<|ns<|cF rfl<|rE<|rX<|rX<|rY<|rS<|rR<|pr 3 rfl<|fA fo63_0 rfl<|lD sc9 hp rfl rfl<|pr 2 rfl<|qq (R.sliceS rfl rfl rfl rfl rfl om om u9) rfl<|aS rfl rfl<|pr 1 rfl<|nB<|rB ?_
     have hrun : Im.nameRun s s.length j = q := by
      rw [← hQ]
      cases m with
      | zero => rfl
      | succ m => rw [Im.nameRun, if_neg (by intro hq; first | (have := hq.1; omega) | exact absurd hq.2 (by rw [‹Im.nameChar (byteAt s q) = false›]; decide))]
     have hadv := Im.nameRun_pos (s := s) (i := j) om aM
     rw [hrun] at hadv
     obtain ⟨mo, rfl⟩ := sU mo
     rw [Im.nameGo, if_pos om] at hE
     rw [if_pos aM, hrun] at hE
     exact cT [(0, pP p), (2, str (out ++ (s.drop j).take (q - j))), (4, .int .i64 (q : Int))] rfl ⟨mo, om, _, _, _, rfl, hp, hG, hE, om, om, om, by simp only [List.length_append, List.length_take]; omega⟩
    refine pr 1 rfl<|ns<|cV rfl<|ks<|rO<|rR<|pr 1 rfl<|aK rfl rfl<|pr 1 rfl<|nB ?_
    obtain ⟨m, rfl⟩ := sU m
    rw [Im.nameRun, if_pos ⟨om, by assumption⟩] at hQ
    exact cT [(0, pP p), (2, str out), (4, .int .i64 ((q + 1 : Nat) : Int)), (6, .int .i64 (j : Int))] rfl ⟨m, om, q + 1, rfl, hp, hG, hQ, om, om, om⟩
   refine pr 9 rfl<|ns<|cF rfl<|rE<|rX<|rX<|rY<|rS<|rR<|pr 3 rfl<|fA fo63_0 rfl<|lD sc9 hp rfl rfl<|pr 2 rfl<|qq (R.sliceS rfl rfl rfl rfl rfl om om u9) rfl<|aS rfl rfl<|pr 1 rfl<|nB<|rB ?_
   have hrun : Im.nameRun s s.length j = q := by
    rw [← hQ]
    cases m with
    | zero => rfl
    | succ m => rw [Im.nameRun, if_neg (by intro hq; first | (have := hq.1; omega) | exact absurd hq.2 (by rw [‹Im.nameChar (byteAt s q) = false›]; decide))]
   have hadv := Im.nameRun_pos (s := s) (i := j) om aM
   rw [hrun] at hadv
   obtain ⟨mo, rfl⟩ := sU mo
   rw [Im.nameGo, if_pos om] at hE
   rw [if_pos aM, hrun] at hE
   exact cT [(0, pP p), (2, str (out ++ (s.drop j).take (q - j))), (4, .int .i64 (q : Int))] rfl ⟨mo, om, _, _, _, rfl, hp, hG, hE, om, om, om, by simp only [List.length_append, List.length_take]; omega⟩
  refine rE<|rX<|rX<|rY ?_
  have hS : Im.nameGo s (s.length + 1) [] i = some (out, j) := by
   rw [← hE]
   cases mo with
   | zero => rfl
   | succ mo => rw [Im.nameGo, if_neg om]
  exact cT [(0, pP p), (2, str out), (4, .int .i64 (j : Int))] rfl ⟨out, j, _, rfl, hp, hG, hS, om, om⟩
 rintro l w ⟨out, j, k, rfl, hp, hG, hS, hij, hjl⟩
 refine qqr<|pr 1 rfl<|qq (R.eqS rfl rfl) rfl<|ns<|cD rfl (fun h7 => ?_) fun h7 => ?_
 ·refine qr<|eN en21 rfl (errNew_calls _ _) fun v w hv => ?_
  obtain ⟨⟨et, eu, rfl⟩, hv⟩ := hv
  have hp := hp.grN hv
  have hG := hG.trans (hv.no _)
  refine pr 2 rfl<|nsth<|At.noRet<|At.res2 rfl rfl rfl ?_
  have hN : Im.name s i = none := by rw [Im.name, hS]; exact if_pos aM
  rw [hN]
  exact ⟨_, _, _, rfl, ⟨_, _, rfl⟩, hp, hG⟩
 refine ksqr<|pr 3 rfl<|fA fo63_1 rfl<|sT sc3 hp rfl fun w hp hs => ?_
 have hp : Blk _ p 63 [str s, .int .i64 ((j : Nat) : Int), .int .i64 ((d : Nat) : Int), .bool acc] := hp
 have hG := hG.trans hs
 refine nsqr<|pr 3 rfl<|nst<|At.noRet<|At.res2 rfl rfl rfl ?_
 have hN : Im.name s i = some (out, j) := by rw [Im.name, hS]; exact if_neg aM
 rw [hN]
 exact ⟨rfl, hp, hG⟩
theorem imString_calls (p : Nat) (s : List UInt8) (i d : Nat) (acc : Bool) (w0 : World) (hp : PD p s i d acc w0) (hb : s.length ≤ 1000) (hi : i ≤ s.length) :
 CR PR 65 [pP p] w0 fun v w' => PRes p s d acc w0 str (Im.string s i) v w' := by
 have hG : Gr w0 w0 (some p) := Gr.refl _ _
 refine CR.of (n := 176) [(0, pP p)] Tryz.func65 rfl Tryz.ntmps65 rfl ⟨rfl, trivial⟩<|qr<|pr 2 rfl<|ns<|C.scope<|qr<|pr 2 rfl<|fA fo63_1 rfl<|lD sc3 hp rfl rfl<|pr 1 rfl<|nsq<|qr<|pr 2 rfl<|fA fo63_0 rfl<|lD sc9 hp rfl rfl<|qq (R.lenS rfl u9) rfl<|pr 1 rfl<|qq (R.addK 2 rfl rfl om) rfl<|qq (R.ltI rfl rfl) rfl<|ns<|cD rfl (fun h1 => ?_) fun h1 => ?_
 ·refine qr<|eN en21 rfl (errNew_calls _ _) fun v w hv => ?_
  obtain ⟨⟨et, eu, rfl⟩, hv⟩ := hv
  have hp := hp.grN hv
  have hG := hG.trans (hv.no _)
  refine pr 2 rfl<|nsth<|At.noRet<|At.res2 rfl rfl rfl ?_
  have hN : Im.string s i = none := by rw [Im.string, if_pos om]
  rw [hN]
  exact ⟨_, _, _, rfl, ⟨_, _, rfl⟩, hp, hG⟩
 refine ksqr<|pr 2 rfl<|fA fo63_0 rfl<|lD sc9 hp rfl rfl<|pr 1 rfl<|qq (R.idxS rfl rfl _ rfl om u9) rfl<|pr 1 rfl<|nsqr<|pr 1 rfl<|aK rfl rfl<|pr 1 rfl<|nsq<|C.label<|rS<|C.cut (fun l w' => ∃ (out : List UInt8) (j k : Nat), l = [(0, pP p), (2, str out), (4, .int .i64 (j : Int))] ∧ PD p s k d acc w' ∧ Gr w0 w' (some p) ∧ (Im.strGo s (byteAt s i) (s.length + 1) [] (i + 1) = some (out, j + 1) ∧ j < s.length ∨ Im.strGo s (byteAt s i) (s.length + 1) [] (i + 1) = none ∧ s.length ≤ j) ∧ i ≤ j ∧ j ≤ s.length) ?_ ?_
 ·refine rO<|sB [(0, pP p), (2, str []), (4, .int .i64 ((i + 1 : Nat) : Int)), (5, .int .u8 (byteAt s i : Int))] rfl<|C.loop (fun m l w' => ∃ (out : List UInt8) (j k : Nat), l = [(0, pP p), (2, str out), (4, .int .i64 (j : Int)), (5, .int .u8 (byteAt s i : Int))] ∧ PD p s k d acc w' ∧ Gr w0 w' (some p) ∧ Im.strGo s (byteAt s i) m out j = Im.strGo s (byteAt s i) (s.length + 1) [] (i + 1) ∧ s.length + 1 < j + m ∧ i ≤ j ∧ j ≤ s.length ∧ out.length ≤ 4 * (j - i)) (s.length + 1) (⟨[], i + 1, i, rfl, hp, hG, rfl, om, om, om, by simp⟩) ?_
  rintro mo l w ⟨out, j, k, rfl, hp, hG, hE, hm, hij, hjl, hol⟩
  refine qqr<|pr 3 rfl<|fA fo63_0 rfl<|lD sc9 hp rfl rfl<|qq (R.lenS rfl u9) rfl<|qq (R.ltI rfl rfl) rfl<|ns<|cD rfl (fun h2 => ?_) fun h2 => ?_
  ·refine ks<|rO<|qr<|pr 2 rfl<|fA fo63_0 rfl<|lD sc9 hp rfl rfl<|pr 1 rfl<|qq (R.idxS rfl rfl _ rfl om u9) rfl<|ns<|rO<|qr<|qq (R.eqI rfl rfl) rfl<|pr 1 rfl<|ns<|cD rfl (fun h3 => ?_) fun h3 => ?_
   ·refine qqr<|pr 2 rfl<|fA fo63_0 rfl<|lD sc9 hp rfl rfl<|qq (R.lenS rfl u9) rfl<|pr 1 rfl<|aK rfl rfl<|qq (R.gtI rfl rfl) rfl<|ns<|cD rfl (fun h4 => ?_) fun h4 => ?_
    ·refine qr<|pr 2 rfl<|fA fo63_0 rfl<|lD sc9 hp rfl rfl<|pr 1 rfl<|aK rfl rfl<|qq (R.idxS rfl rfl _ rfl om u9) rfl<|pr 1 rfl<|nsqr<|pr 1 rfl<|ns<|rO<|rQ<|rO<|rQ<|rO<|rQ<|qqr<|qq (R.eqI rfl rfl) rfl<|pr 1 rfl<|ns<|cD rfl (fun h5 => ?_) fun h5 => ?_
     ·refine rE<|rX<|rX<|rY<|sqr<|pr 2 rfl<|fA fo63_0 rfl<|lD sc9 hp rfl rfl<|qq (R.lenS rfl u9) rfl<|pr 1 rfl<|qq (R.addK 2 rfl rfl om) rfl<|W.split (R.gtI rfl rfl) rfl rfl rfl (fun h6 => ?_) (fun h6 => ?_)
      ·refine pr 3 rfl<|gg (R.fieldAddr fo63_0 rfl) rfl<|gg (R.load sc9 rfl hp rfl) rfl<|pr 1 rfl<|gg (R.addK 2 rfl rfl om) rfl<|gg (R.idxS rfl rfl _ rfl om u9) rfl<|W.gsplit rfl (R.eqI rfl rfl) rfl rfl rfl (fun h7 => ?_) (fun h7 => ?_)
       ·refine pr 1 rfl<|ns<|cV rfl<|qr<|pr 1 rfl<|qq (R.addK 3 rfl rfl om) rfl<|pr 1 rfl<|ns<|rE<|At.blockExitNe rfl<|rX<|At.blockExitNe rfl<|rX<|At.blockExitNe rfl<|rY ?_
        obtain ⟨mo, rfl⟩ := sU mo
        rw [Im.strGo, if_pos om] at hE
        rw [if_pos om, if_pos om, if_pos om] at hE
        exact cT [(0, pP p), (2, str out), (4, .int .i64 ((j + 3 : Nat) : Int)), (5, .int .u8 (byteAt s i : Int))] rfl ⟨mo, om, _, _, _, rfl, hp, hG, hE, om, om, om, om⟩
       refine pr 1 rfl<|ns<|cF rfl<|rK<|bS<|qqr<|pr 1 rfl<|qq (R.addK 2 rfl rfl om) rfl<|pr 1 rfl<|ns<|rE<|rX<|At.blockExitNe rfl<|rX<|At.blockExitNe rfl<|rY ?_
       obtain ⟨mo, rfl⟩ := sU mo
       rw [Im.strGo, if_pos om] at hE
       rw [if_pos om, if_pos om, if_neg om] at hE
       exact cT [(0, pP p), (2, str out), (4, .int .i64 ((j + 2 : Nat) : Int)), (5, .int .u8 (byteAt s i : Int))] rfl ⟨mo, om, _, _, _, rfl, hp, hG, hE, om, om, om, om⟩
      refine pr 10 rfl<|ns<|cF rfl<|rK<|bS<|qqr<|pr 1 rfl<|qq (R.addK 2 rfl rfl om) rfl<|pr 1 rfl<|ns<|rE<|rX<|At.blockExitNe rfl<|rX<|At.blockExitNe rfl<|rY ?_
      obtain ⟨mo, rfl⟩ := sU mo
      rw [Im.strGo, if_pos om] at hE
      rw [if_pos om, if_pos om, if_neg om] at hE
      exact cT [(0, pP p), (2, str out), (4, .int .i64 ((j + 2 : Nat) : Int)), (5, .int .u8 (byteAt s i : Int))] rfl ⟨mo, om, _, _, _, rfl, hp, hG, hE, om, om, om, om⟩
     refine ksq<|qr<|qq (R.eqI rfl rfl) rfl<|pr 1 rfl<|ns<|cD rfl (fun h8 => ?_) fun h8 => ?_
     ·have h8i := h8
      rw [decide_eq_true h8i]
      refine ks<|cV rfl<|rE<|rX<|At.blockExitNe rfl<|rX<|rY<|sq<|qr<|pr 1 rfl<|qq (R.addK 2 rfl rfl om) rfl<|pr 1 rfl<|ns<|rE<|rX<|At.blockExitNe rfl<|rX<|At.blockExitNe rfl<|rY ?_
      obtain ⟨mo, rfl⟩ := sU mo
      rw [Im.strGo, if_pos om] at hE
      rw [if_pos om, if_neg om, if_pos om] at hE
      exact cT [(0, pP p), (2, str out), (4, .int .i64 ((j + 2 : Nat) : Int)), (5, .int .u8 (byteAt s i : Int))] rfl ⟨mo, om, _, _, _, rfl, hp, hG, hE, om, om, om, om⟩
     have h8i := h8
     rw [decide_eq_false h8i]
     refine rR<|W.split (R.eqI rfl rfl) rfl rfl rfl (fun h9 => ?_) (fun h9 => ?_)
     ·refine pr 1 rfl<|ns<|cV rfl<|rE<|rX<|At.blockExitNe rfl<|rX<|rY<|sq<|qr<|pr 1 rfl<|qq (R.addK 2 rfl rfl om) rfl<|pr 1 rfl<|ns<|rE<|rX<|At.blockExitNe rfl<|rX<|At.blockExitNe rfl<|rY ?_
      obtain ⟨mo, rfl⟩ := sU mo
      rw [Im.strGo, if_pos om] at hE
      rw [if_pos om, if_neg om, if_pos om] at hE
      exact cT [(0, pP p), (2, str out), (4, .int .i64 ((j + 2 : Nat) : Int)), (5, .int .u8 (byteAt s i : Int))] rfl ⟨mo, om, _, _, _, rfl, hp, hG, hE, om, om, om, om⟩
     refine pr 1 rfl<|ns<|cF rfl<|ks<|rE<|At.blockExitNe rfl<|rX<|At.blockExitNe rfl<|rX<|rY<|sqr<|pr 3 rfl<|fA fo63_1 rfl<|sT sc3 hp rfl fun w hp hs => ?_
     have hp : Blk _ p 63 [str s, .int .i64 ((j : Nat) : Int), .int .i64 ((d : Nat) : Int), .bool acc] := hp
     have hG := hG.trans hs
     refine nsqr<|pr 1 rfl<|eN en78 rfl (escape_im_calls p s j d acc _ hp hb om) fun v w hv => ?_
     rcases hM10 : Im.escape s j with _ | ⟨x10, j10⟩
     ·rw [hM10] at hv
      obtain ⟨rr10, ee10, j10, rfl, ⟨et10, eu10, rfl⟩, hpo, hv⟩ := hv
      clear hp
      have hp := hpo
      clear hpo
      have hG := hG.trans hv
      refine pr 5 rfl<|nsq<|qr<|pr 1 rfl<|qq (R.neNilT ifc44 rfl) rfl<|ns<|cV rfl<|qr<|pr 3 rfl<|nsth<|rC<|rC<|rH<|rC<|rH<|At.noRet ?_
      obtain ⟨mo, rfl⟩ := sU mo
      rw [Im.strGo, if_pos om] at hE
      rw [if_pos om, if_neg om, if_neg om, hM10] at hE
      refine At.res2 rfl rfl rfl ?_
      have hN : Im.string s i = none := by rw [Im.string, if_neg om, ← hE]
      rw [hN]
      exact ⟨_, _, _, rfl, ⟨_, _, rfl⟩, hp, hG⟩
     rw [hM10] at hv
     obtain ⟨rfl, hpo, hv⟩ := hv
     clear hp
     have hp := hpo
     clear hpo
     have hG := hG.trans hv
     obtain ⟨hea10, heb10, hec10⟩ := Im.escape_le hM10
     refine pr 5 rfl<|nsq<|qr<|pr 1 rfl<|qq (R.neNilF ifc44 rfl) rfl<|ns<|cF rfl<|ksqr<|pr 2 rfl<|fA fo63_1 rfl<|lD sc3 hp rfl rfl<|pr 1 rfl<|nsr<|pr 2 rfl<|aS rfl rfl<|pr 1 rfl<|nB<|rB ?_
     obtain ⟨mo, rfl⟩ := sU mo
     rw [Im.strGo, if_pos om] at hE
     rw [if_pos om, if_neg om, if_neg om, hM10] at hE
     exact cT [(0, pP p), (2, str (out ++ x10)), (4, .int .i64 ((j10 : Nat) : Int)), (5, .int .u8 (byteAt s i : Int))] rfl ⟨mo, om, _, _, _, rfl, hp, hG, hE, om, om, om, by simp only [List.length_append, List.length_take]; omega⟩
    refine ksqr<|pr 3 rfl<|fA fo63_1 rfl<|sT sc3 hp rfl fun w hp hs => ?_
    have hp : Blk _ p 63 [str s, .int .i64 ((j : Nat) : Int), .int .i64 ((d : Nat) : Int), .bool acc] := hp
    have hG := hG.trans hs
    refine nsqr<|pr 1 rfl<|eN en78 rfl (escape_im_calls p s j d acc _ hp hb om) fun v w hv => ?_
    rcases hM11 : Im.escape s j with _ | ⟨x11, j11⟩
    ·rw [hM11] at hv
     obtain ⟨rr11, ee11, j11, rfl, ⟨et11, eu11, rfl⟩, hpo, hv⟩ := hv
     clear hp
     have hp := hpo
     clear hpo
     have hG := hG.trans hv
     refine pr 5 rfl<|nsq<|qr<|pr 1 rfl<|qq (R.neNilT ifc44 rfl) rfl<|ns<|cV rfl<|qr<|pr 3 rfl<|nsth<|rC<|rC<|rH<|rC<|rH<|At.noRet ?_
     obtain ⟨mo, rfl⟩ := sU mo
     rw [Im.strGo, if_pos om] at hE
     rw [if_pos om, if_neg om, if_neg om, hM11] at hE
     refine At.res2 rfl rfl rfl ?_
     have hN : Im.string s i = none := by rw [Im.string, if_neg om, ← hE]
     rw [hN]
     exact ⟨_, _, _, rfl, ⟨_, _, rfl⟩, hp, hG⟩
    rw [hM11] at hv
    obtain ⟨rfl, hpo, hv⟩ := hv
    clear hp
    have hp := hpo
    clear hpo
    have hG := hG.trans hv
    obtain ⟨hea11, heb11, hec11⟩ := Im.escape_le hM11
    refine pr 5 rfl<|nsq<|qr<|pr 1 rfl<|qq (R.neNilF ifc44 rfl) rfl<|ns<|cF rfl<|ksqr<|pr 2 rfl<|fA fo63_1 rfl<|lD sc3 hp rfl rfl<|pr 1 rfl<|nsr<|pr 2 rfl<|aS rfl rfl<|pr 1 rfl<|nB<|rB ?_
    obtain ⟨mo, rfl⟩ := sU mo
    rw [Im.strGo, if_pos om] at hE
    rw [if_pos om, if_neg om, if_neg om, hM11] at hE
    exact cT [(0, pP p), (2, str (out ++ x11)), (4, .int .i64 ((j11 : Nat) : Int)), (5, .int .u8 (byteAt s i : Int))] rfl ⟨mo, om, _, _, _, rfl, hp, hG, hE, om, om, om, by simp only [List.length_append, List.length_take]; omega⟩
   refine qr<|pr 1 rfl<|qq (R.eqI rfl rfl) rfl<|pr 1 rfl<|ns<|cD rfl (fun h12 => ?_) fun h12 => ?_
   ·refine rE<|At.blockExitNe rfl<|At.blockExitNe rfl<|rX<|rY ?_
    have hS : Im.strGo s (byteAt s i) (s.length + 1) [] (i + 1) = some (out, j + 1) := by
     rw [← hE]
     obtain ⟨mo, rfl⟩ := sU mo
     rw [Im.strGo, if_pos om, if_neg om, if_pos om]
    exact cT [(0, pP p), (2, str out), (4, .int .i64 (j : Int))] rfl ⟨out, j, _, rfl, hp, hG, .inl ⟨hS, om⟩, om, om⟩
   refine qqr<|qq (R.eqI rfl rfl) rfl<|pr 1 rfl<|ns<|cD rfl (fun h13 => ?_) fun h13 => ?_
   ·have h13i := h13
    rw [decide_eq_true h13i]
    refine ks<|cV rfl<|qr<|eN en21 rfl (errNew_calls _ _) fun v w hv => ?_
    obtain ⟨⟨et, eu, rfl⟩, hv⟩ := hv
    have hp := hp.grN hv
    have hG := hG.trans (hv.no _)
    refine pr 2 rfl<|nst<|rC<|rC<|rH<|rC<|rH<|At.noRet ?_
    obtain ⟨mo, rfl⟩ := sU mo
    rw [Im.strGo, if_pos om] at hE
    rw [if_neg om, if_neg om, if_pos om] at hE
    refine At.res2 rfl rfl rfl ?_
    have hN : Im.string s i = none := by rw [Im.string, if_neg om, ← hE]
    rw [hN]
    exact ⟨_, _, _, rfl, ⟨_, _, rfl⟩, hp, hG⟩
   have h13i := h13
   rw [decide_eq_false h13i]
   refine qr<|qq (R.eqI rfl rfl) rfl<|pr 1 rfl<|ns<|cD rfl (fun h14 => ?_) fun h14 => ?_
   ·have h14i := h14
    rw [decide_eq_true h14i]
    refine ks<|cV rfl<|qr<|eN en21 rfl (errNew_calls _ _) fun v w hv => ?_
    obtain ⟨⟨et, eu, rfl⟩, hv⟩ := hv
    have hp := hp.grN hv
    have hG := hG.trans (hv.no _)
    refine pr 2 rfl<|nst<|rC<|rC<|rH<|rC<|rH<|At.noRet ?_
    obtain ⟨mo, rfl⟩ := sU mo
    rw [Im.strGo, if_pos om] at hE
    rw [if_neg om, if_neg om, if_pos om] at hE
    refine At.res2 rfl rfl rfl ?_
    have hN : Im.string s i = none := by rw [Im.string, if_neg om, ← hE]
    rw [hN]
    exact ⟨_, _, _, rfl, ⟨_, _, rfl⟩, hp, hG⟩
   have h14i := h14
   rw [decide_eq_false h14i]
   refine rR<|W.split (R.eqI rfl rfl) rfl rfl rfl (fun h15 => ?_) (fun h15 => ?_)
   ·refine pr 1 rfl<|ns<|cV rfl<|qr<|eN en21 rfl (errNew_calls _ _) fun v w hv => ?_
    obtain ⟨⟨et, eu, rfl⟩, hv⟩ := hv
    have hp := hp.grN hv
    have hG := hG.trans (hv.no _)
    refine pr 2 rfl<|nst<|rC<|rC<|rH<|rC<|rH<|At.noRet ?_
    obtain ⟨mo, rfl⟩ := sU mo
    rw [Im.strGo, if_pos om] at hE
    rw [if_neg om, if_neg om, if_pos om] at hE
    refine At.res2 rfl rfl rfl ?_
    have hN : Im.string s i = none := by rw [Im.string, if_neg om, ← hE]
    rw [hN]
    exact ⟨_, _, _, rfl, ⟨_, _, rfl⟩, hp, hG⟩
   refine pr 1 rfl<|ns<|cF rfl<|qr<|pr 2 rfl<|nsq<|rO<|sB [(0, pP p), (2, str out), (4, .int .i64 (j : Int)), (5, .int .u8 (byteAt s i : Int)), (9, .int .i64 (j : Int))] rfl<|C.loop (fun m l w' => ∃ q : Nat, l = [(0, pP p), (2, str out), (4, .int .i64 (q : Int)), (5, .int .u8 (byteAt s i : Int)), (9, .int .i64 (j : Int))] ∧ PD p s k d acc w' ∧ Gr w0 w' (some p) ∧ Im.strRun s (byteAt s i) m q = Im.strRun s (byteAt s i) s.length j ∧ s.length ≤ q + m ∧ j ≤ q ∧ q ≤ s.length) (s.length) (⟨j, rfl, hp, hG, rfl, om, om, om⟩) ?_
   rintro m l w ⟨q, rfl, hp, hG, hQ, hmq, hjq, hql⟩
   refine qqr<|pr 3 rfl<|fA fo63_0 rfl<|lD sc9 hp rfl rfl<|qq (R.lenS rfl u9) rfl<|qq (R.ltI rfl rfl) rfl<|ns<|cD rfl (fun h16 => ?_) fun h16 => ?_
   ·refine ks<|rO<|qqr<|pr 2 rfl<|fA fo63_0 rfl<|lD sc9 hp rfl rfl<|pr 1 rfl<|qq (R.idxS rfl rfl _ rfl om u9) rfl<|pr 1 rfl<|nsqr<|pr 2 rfl<|W.split (R.eqI rfl rfl) rfl rfl rfl (fun h17 => ?_) (fun h17 => ?_)
    ·refine pr 16 rfl<|ns<|cV rfl<|rE<|rX<|At.blockExitNe rfl<|rX<|rY<|rS<|rR<|pr 3 rfl<|fA fo63_0 rfl<|lD sc9 hp rfl rfl<|pr 2 rfl<|qq (R.sliceS rfl rfl rfl rfl rfl om om u9) rfl<|aS rfl rfl<|pr 1 rfl<|nB<|rB ?_
     have hrun : Im.strRun s (byteAt s i) s.length j = q := by
      rw [← hQ]
      cases m with
      | zero => rfl
      | succ m => rw [Im.strRun, if_neg om]
     have hadv := Im.strRun_pos (s := s) (q := byteAt s i) (i := j) om om
     rw [hrun] at hadv
     obtain ⟨mo, rfl⟩ := sU mo
     rw [Im.strGo, if_pos om] at hE
     rw [if_neg om, if_neg om, if_neg om, hrun] at hE
     exact cT [(0, pP p), (2, str (out ++ (s.drop j).take (q - j))), (4, .int .i64 ((q : Nat) : Int)), (5, .int .u8 (byteAt s i : Int))] rfl ⟨mo, om, _, _, _, rfl, hp, hG, hE, om, om, om, by simp only [List.length_append, List.length_take]; omega⟩
    refine pr 2 rfl<|gg (R.eqI rfl rfl) rfl<|W.split (R.pickF rfl rfl) rfl rfl rfl (fun h18 => ?_) (fun h18 => ?_)
    ·refine pr 12 rfl<|ns<|cV rfl<|rE<|rX<|At.blockExitNe rfl<|rX<|rY<|rS<|rR<|pr 3 rfl<|fA fo63_0 rfl<|lD sc9 hp rfl rfl<|pr 2 rfl<|qq (R.sliceS rfl rfl rfl rfl rfl om om u9) rfl<|aS rfl rfl<|pr 1 rfl<|nB<|rB ?_
     have hrun : Im.strRun s (byteAt s i) s.length j = q := by
      rw [← hQ]
      cases m with
      | zero => rfl
      | succ m => rw [Im.strRun, if_neg om]
     have hadv := Im.strRun_pos (s := s) (q := byteAt s i) (i := j) om om
     rw [hrun] at hadv
     obtain ⟨mo, rfl⟩ := sU mo
     rw [Im.strGo, if_pos om] at hE
     rw [if_neg om, if_neg om, if_neg om, hrun] at hE
     exact cT [(0, pP p), (2, str (out ++ (s.drop j).take (q - j))), (4, .int .i64 ((q : Nat) : Int)), (5, .int .u8 (byteAt s i : Int))] rfl ⟨mo, om, _, _, _, rfl, hp, hG, hE, om, om, om, by simp only [List.length_append, List.length_take]; omega⟩
    refine pr 2 rfl<|gg (R.eqI rfl rfl) rfl<|W.split (R.pickF rfl rfl) rfl rfl rfl (fun h19 => ?_) (fun h19 => ?_)
    ·refine pr 8 rfl<|ns<|cV rfl<|rE<|rX<|At.blockExitNe rfl<|rX<|rY<|rS<|rR<|pr 3 rfl<|fA fo63_0 rfl<|lD sc9 hp rfl rfl<|pr 2 rfl<|qq (R.sliceS rfl rfl rfl rfl rfl om om u9) rfl<|aS rfl rfl<|pr 1 rfl<|nB<|rB ?_
     have hrun : Im.strRun s (byteAt s i) s.length j = q := by
      rw [← hQ]
      cases m with
      | zero => rfl
      | succ m => rw [Im.strRun, if_neg om]
     have hadv := Im.strRun_pos (s := s) (q := byteAt s i) (i := j) om om
     rw [hrun] at hadv
     obtain ⟨mo, rfl⟩ := sU mo
     rw [Im.strGo, if_pos om] at hE
     rw [if_neg om, if_neg om, if_neg om, hrun] at hE
     exact cT [(0, pP p), (2, str (out ++ (s.drop j).take (q - j))), (4, .int .i64 ((q : Nat) : Int)), (5, .int .u8 (byteAt s i : Int))] rfl ⟨mo, om, _, _, _, rfl, hp, hG, hE, om, om, om, by simp only [List.length_append, List.length_take]; omega⟩
    refine pr 2 rfl<|gg (R.eqI rfl rfl) rfl<|W.split (R.pickF rfl rfl) rfl rfl rfl (fun h20 => ?_) (fun h20 => ?_)
    ·refine pr 4 rfl<|ns<|cV rfl<|rE<|rX<|At.blockExitNe rfl<|rX<|rY<|rS<|rR<|pr 3 rfl<|fA fo63_0 rfl<|lD sc9 hp rfl rfl<|pr 2 rfl<|qq (R.sliceS rfl rfl rfl rfl rfl om om u9) rfl<|aS rfl rfl<|pr 1 rfl<|nB<|rB ?_
     have hrun : Im.strRun s (byteAt s i) s.length j = q := by
      rw [← hQ]
      cases m with
      | zero => rfl
      | succ m => rw [Im.strRun, if_neg om]
     have hadv := Im.strRun_pos (s := s) (q := byteAt s i) (i := j) om om
     rw [hrun] at hadv
     obtain ⟨mo, rfl⟩ := sU mo
     rw [Im.strGo, if_pos om] at hE
     rw [if_neg om, if_neg om, if_neg om, hrun] at hE
     exact cT [(0, pP p), (2, str (out ++ (s.drop j).take (q - j))), (4, .int .i64 ((q : Nat) : Int)), (5, .int .u8 (byteAt s i : Int))] rfl ⟨mo, om, _, _, _, rfl, hp, hG, hE, om, om, om, by simp only [List.length_append, List.length_take]; omega⟩
    refine pr 2 rfl<|gg (R.eqI rfl rfl) rfl<|pr 1 rfl<|ns<|cD rfl (fun h21 => ?_) fun h21 => ?_
    ·refine rE<|rX<|At.blockExitNe rfl<|rX<|rY<|rS<|rR<|pr 3 rfl<|fA fo63_0 rfl<|lD sc9 hp rfl rfl<|pr 2 rfl<|qq (R.sliceS rfl rfl rfl rfl rfl om om u9) rfl<|aS rfl rfl<|pr 1 rfl<|nB<|rB ?_
     have hrun : Im.strRun s (byteAt s i) s.length j = q := by
      rw [← hQ]
      cases m with
      | zero => rfl
      | succ m => rw [Im.strRun, if_neg om]
     have hadv := Im.strRun_pos (s := s) (q := byteAt s i) (i := j) om om
     rw [hrun] at hadv
     obtain ⟨mo, rfl⟩ := sU mo
     rw [Im.strGo, if_pos om] at hE
     rw [if_neg om, if_neg om, if_neg om, hrun] at hE
     exact cT [(0, pP p), (2, str (out ++ (s.drop j).take (q - j))), (4, .int .i64 ((q : Nat) : Int)), (5, .int .u8 (byteAt s i : Int))] rfl ⟨mo, om, _, _, _, rfl, hp, hG, hE, om, om, om, by simp only [List.length_append, List.length_take]; omega⟩
    refine ks<|rR<|pr 1 rfl<|aK rfl rfl<|pr 1 rfl<|nB ?_
    obtain ⟨m, rfl⟩ := sU m
    rw [Im.strRun, if_pos om] at hQ
    exact cT [(0, pP p), (2, str out), (4, .int .i64 ((q + 1 : Nat) : Int)), (5, .int .u8 (byteAt s i : Int)), (9, .int .i64 (j : Int))] rfl ⟨m, om, q + 1, rfl, hp, hG, hQ, om, om, om⟩
   refine rE<|rX<|rX<|rY<|rS<|rR<|pr 3 rfl<|fA fo63_0 rfl<|lD sc9 hp rfl rfl<|pr 2 rfl<|qq (R.sliceS rfl rfl rfl rfl rfl om om u9) rfl<|aS rfl rfl<|pr 1 rfl<|nB<|rB ?_
   have hrun : Im.strRun s (byteAt s i) s.length j = q := by
    rw [← hQ]
    cases m with
    | zero => rfl
    | succ m => rw [Im.strRun, if_neg om]
   have hadv := Im.strRun_pos (s := s) (q := byteAt s i) (i := j) om om
   rw [hrun] at hadv
   obtain ⟨mo, rfl⟩ := sU mo
   rw [Im.strGo, if_pos om] at hE
   rw [if_neg om, if_neg om, if_neg om, hrun] at hE
   exact cT [(0, pP p), (2, str (out ++ (s.drop j).take (q - j))), (4, .int .i64 ((q : Nat) : Int)), (5, .int .u8 (byteAt s i : Int))] rfl ⟨mo, om, _, _, _, rfl, hp, hG, hE, om, om, om, by simp only [List.length_append, List.length_take]; omega⟩
  refine rE<|rX<|rX<|rY ?_
  have hS : Im.strGo s (byteAt s i) (s.length + 1) [] (i + 1) = none := by
   rw [← hE]
   cases mo with
   | zero => rfl
   | succ mo => rw [Im.strGo, if_neg om]
  exact cT [(0, pP p), (2, str out), (4, .int .i64 (j : Int))] rfl ⟨out, j, _, rfl, hp, hG, .inr ⟨hS, om⟩, om, om⟩
 rintro l w ⟨out, j, k, rfl, hp, hG, hSS, hij, hjl⟩
 refine qqr<|pr 3 rfl<|fA fo63_0 rfl<|lD sc9 hp rfl rfl<|qq (R.lenS rfl u9) rfl<|qq (R.geI rfl rfl) rfl<|ns<|cD rfl (fun h22 => ?_) fun h22 => ?_
 ·refine qr<|eN en21 rfl (errNew_calls _ _) fun v w hv => ?_
  obtain ⟨⟨et, eu, rfl⟩, hv⟩ := hv
  have hp := hp.grN hv
  have hG := hG.trans (hv.no _)
  refine pr 2 rfl<|nsth<|At.noRet<|At.res2 rfl rfl rfl ?_
  have hS := (hSS.resolve_left om).1
  have hN : Im.string s i = none := by rw [Im.string, if_neg om, hS]
  rw [hN]
  exact ⟨_, _, _, rfl, ⟨_, _, rfl⟩, hp, hG⟩
 refine ksqr<|pr 1 rfl<|aK rfl rfl<|pr 1 rfl<|nsqr<|pr 3 rfl<|fA fo63_1 rfl<|sT sc3 hp rfl fun w hp hs => ?_
 have hp : Blk _ p 63 [str s, .int .i64 ((j + 1 : Nat) : Int), .int .i64 ((d : Nat) : Int), .bool acc] := hp
 have hG := hG.trans hs
 refine nsqr<|pr 3 rfl<|nst<|At.noRet<|At.res2 rfl rfl rfl ?_
 have hS := (hSS.resolve_right om).1
 have hN : Im.string s i = some (out, j + 1) := by rw [Im.string, if_neg om, hS]
 rw [hN]
 exact ⟨rfl, hp, hG⟩
end Go.Proofs.YtogfnbkccfkpoaaGreatDoor
namespace Go.Proofs
open Go.Shelf
def Tryz.lays156_ren : Go.Shelf.Ren := ⟨fun | 156 => 137 | 165 => 83 | 166 => 84 | 169 => 86 | 240 => 92 | 241 => 93 | 276 => 97 | 277 => 98 | n => n, fun | 31 => 106 | 9 => 9 | 3 => 3 | 4 => 4 | 0 => 0 | 20 => 20 | 72 => 150 | 76 => 141 | 70 => 148 | 37 => 83 | 75 => 44 | 127 => 162 | 164 => 164 | 5 => 5 | 80 => 49 | n => n, fun | n => n⟩
theorem Tryz.lays156 : Go.Proofs.Lays.n156 Tryz.prog Tryz.lays156_ren := {
 mixed := by kernel_rfl
 f156 := Tryz.func137.trans (congrArg some (by kernel_rfl))
 f165 := Tryz.func83.trans (congrArg some (by kernel_rfl))
 f166 := Tryz.func84.trans (congrArg some (by kernel_rfl))
 f169 := Tryz.func86.trans (congrArg some (by kernel_rfl))
 f240 := Tryz.func92.trans (congrArg some (by kernel_rfl))
 f241 := Tryz.func93.trans (congrArg some (by kernel_rfl))
 f276 := Tryz.func97.trans (congrArg some (by kernel_rfl))
 f277 := Tryz.func98.trans (congrArg some (by kernel_rfl))
 t0 := Tryz.underlying0
 a0 := Tryz.isAgg0
 z0 := Tryz.sizeOf0
 v0 := Tryz.zeroValue0
 t3 := Tryz.underlying3
 a3 := Tryz.isAgg3
 z3 := Tryz.sizeOf3
 v3 := Tryz.zeroValue3
 t4 := Tryz.underlying4
 a4 := Tryz.isAgg4
 z4 := Tryz.sizeOf4
 v4 := Tryz.zeroValue4
 t9 := Tryz.underlying9
 a9 := Tryz.isAgg9
 z9 := Tryz.sizeOf9
 v9 := Tryz.zeroValue9
 t20 := Tryz.underlying20
 a20 := Tryz.isAgg20
 z20 := Tryz.sizeOf20
 v20 := Tryz.zeroValue20
 t31 := Tryz.underlying106
 a31 := Tryz.isAgg106
 z31 := Tryz.sizeOf106
 v31 := Tryz.zeroValue106
 t37 := Tryz.underlying83
 a37 := Tryz.isAgg83
 z37 := Tryz.sizeOf83
 v37 := Tryz.zeroValue83
 t70 := Tryz.underlying148
 a70 := Tryz.isAgg148
 z70 := Tryz.sizeOf148
 v70 := Tryz.zeroValue148
 t72 := Tryz.underlying150
 a72 := Tryz.isAgg150
 z72 := Tryz.sizeOf150
 v72 := Tryz.zeroValue150
 t75 := Tryz.underlying44
 a75 := Tryz.isAgg44
 z75 := Tryz.sizeOf44
 v75 := Tryz.zeroValue44
 t76 := Tryz.underlying141
 a76 := Tryz.isAgg141
 z76 := Tryz.sizeOf141
 v76 := Tryz.zeroValue141
 t127 := Tryz.underlying162
 a127 := Tryz.isAgg162
 z127 := Tryz.sizeOf162
 v127 := Tryz.zeroValue162
 t164 := Tryz.underlying164
 a164 := Tryz.isAgg164
 z164 := Tryz.sizeOf164
 v164 := Tryz.zeroValue164 }
theorem Tryz.Builder_Extra_156 : Builder.Extra Tryz.prog Tryz.lays156_ren := {
 sizeBuilder := by kernel_rfl
 liesBuilder := by kernel_rfl
 t5 := Tryz.underlying5
 a5 := Tryz.isAgg5
 z5 := Tryz.sizeOf5
 v5 := Tryz.zeroValue5
 infoByte := by kernel_rfl
 cellsByte := by kernel_rfl
 sizeByte := by kernel_rfl
 neB5 := by decide }
open Go.RowKit in
theorem Tryz.strings_Join (bk o c : Nat) (xs : List ByteArray) (sep : ByteArray) (w : World) (hcells : ∀ (j : Nat) x, xs[j]? = some x → w.cell? ⟨bk, o + j, none⟩ = some (.string x)) (hbk : bk < w.heap.size) (hN : xs.length ≤ 140737488355328) (hcap : xs.length ≤ c) (hlen : (Lib.join (xs.map (·.data.toList)) sep.data.toList).length ≤ 140737488355328) :
 Calls Tryz.prog 137 #[.slice (some ⟨bk, o, none⟩) xs.length c, .string sep] w fun e w' => e = .returned (.string ⟨(Lib.join (xs.map (·.data.toList)) sep.data.toList).toArray⟩) ∧ Below w.heap.size w w' := Any.strings_Join Tryz.lays156 Tryz.Builder_Extra_156 bk o c xs sep w hcells hbk hN hcap hlen
def Tryz.laysM171_ren : Go.Shelf.Ren := ⟨fun | 171 => 107 | 243 => 108 | 246 => 109 | 283 => 110 | 284 => 111 | 285 => 112 | 286 => 113 | 129 => 115 | 317 => 114 | 318 => 116 | 319 => 117 | 320 => 118 | 337 => 119 | 338 => 120 | n => n, fun | 3 => 3 | 9 => 9 | 2 => 2 | 4 => 4 | 171 => 177 | 0 => 0 | 53 => 154 | 37 => 83 | 5 => 5 | 173 => 180 | 212 => 184 | 51 => 157 | 20 => 20 | 213 => 185 | 46 => 67 | 232 => 188 | 233 => 189 | n => n, fun | 17 => 6 | 18 => 7 | 19 => 8 | n => n⟩
theorem Tryz.laysM171 : Go.Proofs.LaysM.n171 Tryz.prog Tryz.laysM171_ren := {
 mixed := by kernel_rfl
 f129 := Tryz.func115.trans (congrArg some (by kernel_rfl))
 f171 := Tryz.func107.trans (congrArg some (by kernel_rfl))
 f243 := Tryz.func108.trans (congrArg some (by kernel_rfl))
 f246 := Tryz.func109.trans (congrArg some (by kernel_rfl))
 f283 := Tryz.func110.trans (congrArg some (by kernel_rfl))
 f284 := Tryz.func111.trans (congrArg some (by kernel_rfl))
 f285 := Tryz.func112.trans (congrArg some (by kernel_rfl))
 f286 := Tryz.func113.trans (congrArg some (by kernel_rfl))
 f317 := Tryz.func114.trans (congrArg some (by kernel_rfl))
 f318 := Tryz.func116.trans (congrArg some (by kernel_rfl))
 f319 := Tryz.func117.trans (congrArg some (by kernel_rfl))
 f320 := Tryz.func118.trans (congrArg some (by kernel_rfl))
 f337 := Tryz.func119.trans (congrArg some (by kernel_rfl))
 f338 := Tryz.func120.trans (congrArg some (by kernel_rfl))
 t0 := Tryz.underlying0
 a0 := Tryz.isAgg0
 z0 := Tryz.sizeOf0
 v0 := Tryz.zeroValue0
 t2 := Tryz.underlying2
 a2 := Tryz.isAgg2
 z2 := Tryz.sizeOf2
 v2 := Tryz.zeroValue2
 t3 := Tryz.underlying3
 a3 := Tryz.isAgg3
 z3 := Tryz.sizeOf3
 v3 := Tryz.zeroValue3
 t4 := Tryz.underlying4
 a4 := Tryz.isAgg4
 z4 := Tryz.sizeOf4
 v4 := Tryz.zeroValue4
 t5 := Tryz.underlying5
 a5 := Tryz.isAgg5
 z5 := Tryz.sizeOf5
 v5 := Tryz.zeroValue5
 t9 := Tryz.underlying9
 a9 := Tryz.isAgg9
 z9 := Tryz.sizeOf9
 v9 := Tryz.zeroValue9
 t20 := Tryz.underlying20
 a20 := Tryz.isAgg20
 z20 := Tryz.sizeOf20
 v20 := Tryz.zeroValue20
 t37 := Tryz.underlying83
 a37 := Tryz.isAgg83
 z37 := Tryz.sizeOf83
 v37 := Tryz.zeroValue83
 t46 := Tryz.underlying67
 a46 := Tryz.isAgg67
 z46 := Tryz.sizeOf67
 v46 := Tryz.zeroValue67
 t51 := Tryz.underlying157
 a51 := Tryz.isAgg157
 z51 := Tryz.sizeOf157
 v51 := Tryz.zeroValue157
 t53 := Tryz.underlying154
 a53 := Tryz.isAgg154
 z53 := Tryz.sizeOf154
 v53 := Tryz.zeroValue154
 t171 := Tryz.underlying177
 a171 := Tryz.isAgg177
 z171 := Tryz.sizeOf177
 v171 := Tryz.zeroValue177
 t173 := Tryz.underlying180
 a173 := Tryz.isAgg180
 z173 := Tryz.sizeOf180
 v173 := Tryz.zeroValue180
 t212 := Tryz.underlying184
 a212 := Tryz.isAgg184
 z212 := Tryz.sizeOf184
 v212 := Tryz.zeroValue184
 t213 := Tryz.underlying185
 a213 := Tryz.isAgg185
 z213 := Tryz.sizeOf185
 t232 := Tryz.underlying188
 a232 := Tryz.isAgg188
 z232 := Tryz.sizeOf188
 v232 := Tryz.zeroValue188
 t233 := Tryz.underlying189
 a233 := Tryz.isAgg189
 z233 := Tryz.sizeOf189
 v233 := Tryz.zeroValue189
 g17 := by kernel_rfl
 g18 := by kernel_rfl
 g19 := by kernel_rfl
 i0 := by kernel_rfl
 i2 := by kernel_rfl
 i3 := by kernel_rfl
 i4 := by kernel_rfl
 i5 := by kernel_rfl
 i9 := by kernel_rfl
 i20 := by kernel_rfl
 i37 := by kernel_rfl
 i46 := by kernel_rfl
 i51 := by kernel_rfl
 i53 := by kernel_rfl
 i171 := by kernel_rfl
 i173 := by kernel_rfl
 i212 := by kernel_rfl
 i232 := by kernel_rfl
 i233 := by kernel_rfl
 m17 := by kernel_rfl
 m18 := by kernel_rfl
 m19 := by kernel_rfl }
open Go.RowKit Go.Sort Go.Lib in
theorem Tryz.strconv_Itoa (n : Int) (h0 : -9223372036854775808 ≤ n) (h1 : n ≤ 9223372036854775807) (w : World) (htab : Lib.TabIs Tryz.prog w "internal/strconv.uint64pow10" .u64 Lib.pow10Tab) :
 Calls Tryz.prog 107 #[.int .i64 n] w fun e w' => e = .returned (.string ⟨(Lib.itoa n).toArray⟩) ∧ ∃ k os, w' = grow (w.drewN k) os := Any.strconv_Itoa Tryz.laysM171 n h0 h1 w htab
def Tryz.laysC172_ren : Go.Shelf.Ren := ⟨fun | 172 => 89 | 244 => 96 | 245 => 95 | 247 => 105 | 279 => 101 | 280 => 102 | 281 => 103 | 282 => 104 | 287 => 94 | 316 => 106 | 171 => 107 | 205 => 21 | 321 => 99 | 322 => 100 | 243 => 108 | 246 => 109 | 283 => 110 | 284 => 111 | 285 => 112 | 286 => 113 | 129 => 115 | 317 => 114 | 318 => 116 | 319 => 117 | 320 => 118 | 337 => 119 | 338 => 120 | n => n, fun | 9 => 9 | 3 => 3 | 75 => 44 | 76 => 141 | 4 => 4 | 5 => 5 | 167 => 167 | 37 => 83 | 0 => 0 | 85 => 172 | 2 => 2 | 168 => 169 | 53 => 154 | 175 => 155 | 46 => 67 | 210 => 175 | 127 => 162 | 145 => 75 | 143 => 73 | 21 => 21 | 171 => 177 | 173 => 180 | 212 => 184 | 51 => 157 | 20 => 20 | 213 => 185 | 232 => 188 | 233 => 189 | 80 => 49 | n => n, fun | 15 => 4 | 16 => 5 | 17 => 6 | 18 => 7 | 19 => 8 | n => n⟩
theorem Tryz.laysC172 : Go.Proofs.LaysC.n172 Tryz.prog Tryz.laysC172_ren := {
 mixed := by kernel_rfl
 f129 := Tryz.func115.trans (congrArg some (by kernel_rfl))
 f171 := Tryz.func107.trans (congrArg some (by kernel_rfl))
 f172 := Tryz.func89.trans (congrArg some (by kernel_rfl))
 f205 := Tryz.func21.trans (congrArg some (by kernel_rfl))
 f243 := Tryz.func108.trans (congrArg some (by kernel_rfl))
 f244 := Tryz.func96.trans (congrArg some (by kernel_rfl))
 f245 := Tryz.func95.trans (congrArg some (by kernel_rfl))
 f246 := Tryz.func109.trans (congrArg some (by kernel_rfl))
 f247 := Tryz.func105.trans (congrArg some (by kernel_rfl))
 f279 := Tryz.func101.trans (congrArg some (by kernel_rfl))
 f280 := Tryz.func102.trans (congrArg some (by kernel_rfl))
 f281 := Tryz.func103.trans (congrArg some (by kernel_rfl))
 f282 := Tryz.func104.trans (congrArg some (by kernel_rfl))
 f283 := Tryz.func110.trans (congrArg some (by kernel_rfl))
 f284 := Tryz.func111.trans (congrArg some (by kernel_rfl))
 f285 := Tryz.func112.trans (congrArg some (by kernel_rfl))
 f286 := Tryz.func113.trans (congrArg some (by kernel_rfl))
 f287 := Tryz.func94.trans (congrArg some (by kernel_rfl))
 f316 := Tryz.func106.trans (congrArg some (by kernel_rfl))
 f317 := Tryz.func114.trans (congrArg some (by kernel_rfl))
 f318 := Tryz.func116.trans (congrArg some (by kernel_rfl))
 f319 := Tryz.func117.trans (congrArg some (by kernel_rfl))
 f320 := Tryz.func118.trans (congrArg some (by kernel_rfl))
 f321 := Tryz.func99.trans (congrArg some (by kernel_rfl))
 f322 := Tryz.func100.trans (congrArg some (by kernel_rfl))
 f337 := Tryz.func119.trans (congrArg some (by kernel_rfl))
 f338 := Tryz.func120.trans (congrArg some (by kernel_rfl))
 t0 := Tryz.underlying0
 a0 := Tryz.isAgg0
 z0 := Tryz.sizeOf0
 v0 := Tryz.zeroValue0
 t2 := Tryz.underlying2
 a2 := Tryz.isAgg2
 z2 := Tryz.sizeOf2
 v2 := Tryz.zeroValue2
 t3 := Tryz.underlying3
 a3 := Tryz.isAgg3
 z3 := Tryz.sizeOf3
 v3 := Tryz.zeroValue3
 t4 := Tryz.underlying4
 a4 := Tryz.isAgg4
 z4 := Tryz.sizeOf4
 v4 := Tryz.zeroValue4
 t5 := Tryz.underlying5
 a5 := Tryz.isAgg5
 z5 := Tryz.sizeOf5
 v5 := Tryz.zeroValue5
 t9 := Tryz.underlying9
 a9 := Tryz.isAgg9
 z9 := Tryz.sizeOf9
 v9 := Tryz.zeroValue9
 t20 := Tryz.underlying20
 a20 := Tryz.isAgg20
 z20 := Tryz.sizeOf20
 v20 := Tryz.zeroValue20
 t21 := Tryz.underlying21
 a21 := Tryz.isAgg21
 z21 := Tryz.sizeOf21
 v21 := Tryz.zeroValue21
 t37 := Tryz.underlying83
 a37 := Tryz.isAgg83
 z37 := Tryz.sizeOf83
 v37 := Tryz.zeroValue83
 t46 := Tryz.underlying67
 a46 := Tryz.isAgg67
 z46 := Tryz.sizeOf67
 v46 := Tryz.zeroValue67
 t51 := Tryz.underlying157
 a51 := Tryz.isAgg157
 z51 := Tryz.sizeOf157
 v51 := Tryz.zeroValue157
 t53 := Tryz.underlying154
 a53 := Tryz.isAgg154
 z53 := Tryz.sizeOf154
 v53 := Tryz.zeroValue154
 t75 := Tryz.underlying44
 a75 := Tryz.isAgg44
 z75 := Tryz.sizeOf44
 v75 := Tryz.zeroValue44
 t76 := Tryz.underlying141
 a76 := Tryz.isAgg141
 z76 := Tryz.sizeOf141
 v76 := Tryz.zeroValue141
 t85 := Tryz.underlying172
 a85 := Tryz.isAgg172
 z85 := Tryz.sizeOf172
 v85 := Tryz.zeroValue172
 t127 := Tryz.underlying162
 a127 := Tryz.isAgg162
 z127 := Tryz.sizeOf162
 v127 := Tryz.zeroValue162
 t143 := Tryz.underlying73
 a143 := Tryz.isAgg73
 z143 := Tryz.sizeOf73
 v143 := Tryz.zeroValue73
 t145 := Tryz.underlying75
 a145 := Tryz.isAgg75
 z145 := Tryz.sizeOf75
 v145 := Tryz.zeroValue75
 t167 := Tryz.underlying167
 a167 := Tryz.isAgg167
 z167 := Tryz.sizeOf167
 v167 := Tryz.zeroValue167
 t168 := Tryz.underlying169
 a168 := Tryz.isAgg169
 z168 := Tryz.sizeOf169
 v168 := Tryz.zeroValue169
 t171 := Tryz.underlying177
 a171 := Tryz.isAgg177
 z171 := Tryz.sizeOf177
 v171 := Tryz.zeroValue177
 t173 := Tryz.underlying180
 a173 := Tryz.isAgg180
 z173 := Tryz.sizeOf180
 v173 := Tryz.zeroValue180
 t175 := Tryz.underlying155
 a175 := Tryz.isAgg155
 z175 := Tryz.sizeOf155
 v175 := Tryz.zeroValue155
 t210 := Tryz.underlying175
 a210 := Tryz.isAgg175
 z210 := Tryz.sizeOf175
 v210 := Tryz.zeroValue175
 t212 := Tryz.underlying184
 a212 := Tryz.isAgg184
 z212 := Tryz.sizeOf184
 v212 := Tryz.zeroValue184
 t213 := Tryz.underlying185
 a213 := Tryz.isAgg185
 z213 := Tryz.sizeOf185
 t232 := Tryz.underlying188
 a232 := Tryz.isAgg188
 z232 := Tryz.sizeOf188
 v232 := Tryz.zeroValue188
 t233 := Tryz.underlying189
 a233 := Tryz.isAgg189
 z233 := Tryz.sizeOf189
 v233 := Tryz.zeroValue189
 g15 := by kernel_rfl
 g16 := by kernel_rfl
 g17 := by kernel_rfl
 g18 := by kernel_rfl
 g19 := by kernel_rfl
 t80 := Tryz.underlying49
 a80 := Tryz.isAgg49
 z80 := Tryz.sizeOf49
 v80 := Tryz.zeroValue49
 i0 := by kernel_rfl
 i2 := by kernel_rfl
 i3 := by kernel_rfl
 i4 := by kernel_rfl
 i5 := by kernel_rfl
 i9 := by kernel_rfl
 i20 := by kernel_rfl
 i21 := by kernel_rfl
 i37 := by kernel_rfl
 i46 := by kernel_rfl
 i51 := by kernel_rfl
 i53 := by kernel_rfl
 i75 := by kernel_rfl
 i76 := by kernel_rfl
 i80 := by kernel_rfl
 i85 := by kernel_rfl
 i127 := by kernel_rfl
 i143 := by kernel_rfl
 i145 := by kernel_rfl
 i167 := by kernel_rfl
 i168 := by kernel_rfl
 i171 := by kernel_rfl
 i173 := by kernel_rfl
 i175 := by kernel_rfl
 i210 := by kernel_rfl
 i212 := by kernel_rfl
 i232 := by kernel_rfl
 i233 := by kernel_rfl
 m15 := by kernel_rfl
 m16 := by kernel_rfl
 m17 := by kernel_rfl
 m18 := by kernel_rfl
 m19 := by kernel_rfl
 c0 := by kernel_rfl
 c2 := by kernel_rfl
 c3 := by kernel_rfl
 c4 := by kernel_rfl
 c5 := by kernel_rfl
 c9 := by kernel_rfl
 c20 := by kernel_rfl
 c21 := by kernel_rfl
 c37 := by kernel_rfl
 c46 := by kernel_rfl
 c51 := by kernel_rfl
 c53 := by kernel_rfl
 c75 := by kernel_rfl
 c76 := by kernel_rfl
 c80 := by kernel_rfl
 c85 := by kernel_rfl
 c127 := by kernel_rfl
 c143 := by kernel_rfl
 c145 := by kernel_rfl
 c167 := by kernel_rfl
 c168 := by kernel_rfl
 c171 := by kernel_rfl
 c173 := by kernel_rfl
 c175 := by kernel_rfl
 c210 := by kernel_rfl
 c212 := by kernel_rfl
 c213 := by kernel_rfl
 c232 := by kernel_rfl
 c233 := by kernel_rfl }
open Go.RowKit in
theorem Tryz.strconv_Atoi_ok (s : ByteArray) (hmax : s.size ≤ 9223372036854775806) (v : Int) (h : Lib.atoiAll s.data.toList = .ok v) (w : World) :
 Calls Tryz.prog 89 #[.string s] w fun e w' => e = .returned (.tuple #[.int .i64 v, .nilIface]) ∧ (w' = w ∨ ∃ t, w' = Lib.bytesWorld w 5 t) := Any.strconv_Atoi_ok Tryz.laysC172 s hmax v h w
open Go.RowKit in
theorem Tryz.strconv_Atoi_range (s : ByteArray) (hlim : s.size ≤ 281474976710656) (h : Lib.atoiAll s.data.toList = .range) (ev : Value) (w : World) (hv : w.cell? ⟨5, 0, none⟩ = some ev) (hev : ev = .nilIface ∨ ∃ te pe, ev = .iface te pe) :
 Calls Tryz.prog 89 #[.string s] w fun e w' => ∃ N, e = .returned (.tuple #[.int .i64 (Lib.atoiSat s.data.toList), .iface 169 (.pointer (some ⟨N, 0, none⟩))]) ∧ w.heap.size ≤ N ∧ w'.heap[N]? = some (.cells #[.string ⟨#[65, 116, 111, 105]⟩, .string s, ev] 175 (0, 0)) ∧ Below w.heap.size w w' := Any.strconv_Atoi_range Tryz.laysC172 s hlim h ev w hv hev
def Tryz.lays105_ren : Go.Shelf.Ren := ⟨fun | 105 => 76 | 212 => 82 | 99 => 47 | 165 => 83 | 166 => 84 | 170 => 85 | 169 => 86 | 263 => 90 | 264 => 91 | 206 => 61 | 240 => 92 | 241 => 93 | 276 => 97 | 277 => 98 | n => n, fun | 9 => 9 | 3 => 3 | 4 => 4 | 20 => 20 | 0 => 0 | 46 => 67 | 109 => 146 | 5 => 5 | 72 => 150 | 76 => 141 | 51 => 157 | 146 => 158 | 53 => 154 | 148 => 160 | 70 => 148 | 37 => 83 | 75 => 44 | 127 => 162 | 164 => 164 | 80 => 49 | n => n, fun | n => n⟩
theorem Tryz.lays105 : Go.Proofs.Lays.n105 Tryz.prog Tryz.lays105_ren := {
 mixed := by kernel_rfl
 f99 := Tryz.func47.trans (congrArg some (by kernel_rfl))
 f105 := Tryz.func76.trans (congrArg some (by kernel_rfl))
 f165 := Tryz.func83.trans (congrArg some (by kernel_rfl))
 f166 := Tryz.func84.trans (congrArg some (by kernel_rfl))
 f169 := Tryz.func86.trans (congrArg some (by kernel_rfl))
 f170 := Tryz.func85.trans (congrArg some (by kernel_rfl))
 f206 := Tryz.func61.trans (congrArg some (by kernel_rfl))
 f212 := Tryz.func82.trans (congrArg some (by kernel_rfl))
 f240 := Tryz.func92.trans (congrArg some (by kernel_rfl))
 f241 := Tryz.func93.trans (congrArg some (by kernel_rfl))
 f263 := Tryz.func90.trans (congrArg some (by kernel_rfl))
 f264 := Tryz.func91.trans (congrArg some (by kernel_rfl))
 f276 := Tryz.func97.trans (congrArg some (by kernel_rfl))
 f277 := Tryz.func98.trans (congrArg some (by kernel_rfl))
 t0 := Tryz.underlying0
 a0 := Tryz.isAgg0
 z0 := Tryz.sizeOf0
 v0 := Tryz.zeroValue0
 t3 := Tryz.underlying3
 a3 := Tryz.isAgg3
 z3 := Tryz.sizeOf3
 v3 := Tryz.zeroValue3
 t4 := Tryz.underlying4
 a4 := Tryz.isAgg4
 z4 := Tryz.sizeOf4
 v4 := Tryz.zeroValue4
 t5 := Tryz.underlying5
 a5 := Tryz.isAgg5
 z5 := Tryz.sizeOf5
 v5 := Tryz.zeroValue5
 t9 := Tryz.underlying9
 a9 := Tryz.isAgg9
 z9 := Tryz.sizeOf9
 v9 := Tryz.zeroValue9
 t20 := Tryz.underlying20
 a20 := Tryz.isAgg20
 z20 := Tryz.sizeOf20
 v20 := Tryz.zeroValue20
 t37 := Tryz.underlying83
 a37 := Tryz.isAgg83
 z37 := Tryz.sizeOf83
 v37 := Tryz.zeroValue83
 t46 := Tryz.underlying67
 a46 := Tryz.isAgg67
 z46 := Tryz.sizeOf67
 v46 := Tryz.zeroValue67
 t51 := Tryz.underlying157
 a51 := Tryz.isAgg157
 z51 := Tryz.sizeOf157
 v51 := Tryz.zeroValue157
 t53 := Tryz.underlying154
 a53 := Tryz.isAgg154
 z53 := Tryz.sizeOf154
 v53 := Tryz.zeroValue154
 t70 := Tryz.underlying148
 a70 := Tryz.isAgg148
 z70 := Tryz.sizeOf148
 v70 := Tryz.zeroValue148
 t72 := Tryz.underlying150
 a72 := Tryz.isAgg150
 z72 := Tryz.sizeOf150
 v72 := Tryz.zeroValue150
 t75 := Tryz.underlying44
 a75 := Tryz.isAgg44
 z75 := Tryz.sizeOf44
 v75 := Tryz.zeroValue44
 t76 := Tryz.underlying141
 a76 := Tryz.isAgg141
 z76 := Tryz.sizeOf141
 v76 := Tryz.zeroValue141
 t109 := Tryz.underlying146
 a109 := Tryz.isAgg146
 z109 := Tryz.sizeOf146
 v109 := Tryz.zeroValue146
 t127 := Tryz.underlying162
 a127 := Tryz.isAgg162
 z127 := Tryz.sizeOf162
 v127 := Tryz.zeroValue162
 t146 := Tryz.underlying158
 a146 := Tryz.isAgg158
 z146 := Tryz.sizeOf158
 v146 := Tryz.zeroValue158
 t148 := Tryz.underlying160
 a148 := Tryz.isAgg160
 z148 := Tryz.sizeOf160
 v148 := Tryz.zeroValue160
 t164 := Tryz.underlying164
 a164 := Tryz.isAgg164
 z164 := Tryz.sizeOf164
 v164 := Tryz.zeroValue164 }
theorem Tryz.Builder_Extra_105 : Builder.Extra Tryz.prog Tryz.lays105_ren := {
 sizeBuilder := by kernel_rfl
 liesBuilder := by kernel_rfl
 t5 := Tryz.underlying5
 a5 := Tryz.isAgg5
 z5 := Tryz.sizeOf5
 v5 := Tryz.zeroValue5
 infoByte := by kernel_rfl
 cellsByte := by kernel_rfl
 sizeByte := by kernel_rfl
 neB5 := by decide }
open Go.RowKit Go.Lib in
theorem Tryz.strings_Repeat (s : ByteArray) (c : Nat) (w : World) (hc : c ≤ 9223372036854775807) (hlen : s.size * c ≤ 140737488355328) :
 Calls Tryz.prog 76 #[.string s, .int .i64 c] w fun e w' => e = .returned (.string ⟨(Lib.repeatL s.data.toList c).toArray⟩) ∧ Below w.heap.size w w' := Any.strings_Repeat Tryz.lays105 Tryz.Builder_Extra_105 s c w hc hlen
end Go.Proofs
namespace Go.Proofs.YtogfnbkccfkpoaaGreatDoor
open Go Go.RowKit
open Eng
theorem Gr.of_below {w w' : World} (h : Below w.heap.size w w') : Gr w w' none := ⟨h.os, h.tape, h.output, h.size, fun i hi _ => h.block i hi⟩
theorem Gr.of_bytes (w : World) (s : ByteArray) : Gr w (Lib.bytesWorld w 5 s) none := by
 refine ⟨rfl, rfl, rfl, ?_, fun i hi _ => ?_⟩
 ·simp [Lib.bytesWorld, World.freeze]
 have h1 : i ≠ w.heap.size := by omega
 simp only [Lib.bytesWorld, World.freeze]
 simp only [Nat.one_ne_zero, if_false, Array.getElem?_modify]
 rw [if_neg (fun e => h1 e.symm)]
 exact Below.heap_alloc w.drew _ _ hi
theorem repeatL_one (n : Nat) : Lib.repeatL [45] n = List.replicate n 45 := by
 induction n with
 | zero => rfl
 | succ n ih => rw [Lib.repeatL, ih]; rfl
theorem repeat_calls (n : Nat) (w0 : World) (hn : n ≤ 2000) : CR PR 76 [str [45], .int .i64 (n : Int)] w0 fun v w' => v = str (List.replicate n 45) ∧ Gr w0 w' none := by
 have h := Tryz.strings_Repeat ⟨#[45]⟩ n w0 om (by simp [ByteArray.size]; omega)
 refine Calls.mono h ?_
 rintro e w' ⟨rfl, hb⟩
 refine ⟨_, rfl, ?_, Gr.of_below hb⟩
 have : (⟨#[45]⟩ : ByteArray).data.toList = [45] := rfl
 rw [this, repeatL_one]
theorem fold_ge (l : List UInt8) : ∀ (acc : Nat), acc ≤ l.foldl (fun n c => 10 * n + (c.toNat - 48)) acc := by
 induction l with
 | nil => intro acc; exact Nat.le_refl _
 | cons c r ih => intro acc; rw [List.foldl_cons]; exact Nat.le_trans om (ih _)
theorem parseUint10_digits : ∀ (l : List UInt8) (acc : Nat), (∀ c ∈ l, 48 ≤ c.toNat ∧ c.toNat ≤ 57) →
 Lib.parseUint10 acc l = .ok (l.foldl (fun n c => 10 * n + (c.toNat - 48)) acc) ∨ Lib.parseUint10 acc l = .range ∧ 9223372036854775808 ≤ l.foldl (fun n c => 10 * n + (c.toNat - 48)) acc := by
 intro l
 induction l with
 | nil => intro acc _; exact .inl rfl
 | cons c r ih =>
  intro acc hd
  have h1 := hd c (by simp)
  have h2 := fold_ge r (10 * acc + (c.toNat - 48))
  rw [Lib.parseUint10, if_pos h1, List.foldl_cons]
  by_cases h3 : 1844674407370955162 ≤ acc
  ·rw [if_pos h3]; exact .inr ⟨rfl, om⟩
  rw [if_neg h3]
  by_cases h4 : 18446744073709551616 ≤ acc * 10 + (c.toNat - 48)
  ·rw [if_pos h4]; exact .inr ⟨rfl, om⟩
  rw [if_neg h4, show acc * 10 + (c.toNat - 48) = 10 * acc + (c.toNat - 48) from by omega]
  exact ih _ (fun x hx => hd x (by simp [hx]))
theorem atoiAll_digits (l : List UInt8) (hne : ¬ l = []) (hd : ∀ c ∈ l, 48 ≤ c.toNat ∧ c.toNat ≤ 57) : Lib.atoiAll l = if Im.digNum l < 9223372036854775808 then .ok ((Im.digNum l : Nat) : Int) else .range := by
 cases l with
 | nil => exact absurd rfl hne
 | cons c r =>
  have h1 := hd c (by simp)
  have hm : Lib.parseMag (c :: r) = Lib.parseUint10 0 (c :: r) := by rw [Lib.parseMag, if_neg (by simp)]
  unfold Lib.atoiAll
  simp only
  rw [if_neg (show ¬ (c.toNat = 43 ∨ c.toNat = 45) by omega), hm]
  have hk : Im.digNum (c :: r) = (c :: r).foldl (fun n c => 10 * n + (c.toNat - 48)) 0 := rfl
  rcases parseUint10_digits (c :: r) 0 hd with h | ⟨h, h2⟩
  ·rw [h, ← hk]
   have h45 : ¬ c.toNat = 45 := by omega
   simp only [h45, not_false_eq_true, true_and, false_and, if_false]
   by_cases hlt : Im.digNum (c :: r) < 9223372036854775808
   ·rw [if_pos hlt, if_neg om]
   rw [if_neg hlt, if_pos om]
  rw [h, if_neg (by rw [hk]; omega)]
theorem atoi_calls (t : List UInt8) (w0 : World) (hne : ¬ t = []) (hd : ∀ c ∈ t, 48 ≤ c.toNat ∧ c.toNat ≤ 57) (hl : t.length ≤ 2000) (hrng : ∃ te pe, w0.cell? ⟨5, 0, none⟩ = some (.iface te pe)) :
 CR PR 89 [str t] w0 fun v w' => (Im.digNum t < 9223372036854775808 ∧ v = .tuple #[.int .i64 (Im.digNum t : Int), .nilIface] ∨ ¬ Im.digNum t < 9223372036854775808 ∧ ∃ r e, v = .tuple #[r, e] ∧ ErrV e) ∧ Gr w0 w' none := by
 have hsz : (⟨t.toArray⟩ : ByteArray).size = t.length := by simp [ByteArray.size]
 have hlist : (⟨t.toArray⟩ : ByteArray).data.toList = t := rfl
 have hA := atoiAll_digits t hne hd
 by_cases hlt : Im.digNum t < 9223372036854775808
 ·rw [if_pos hlt] at hA
  refine Calls.mono (Tryz.strconv_Atoi_ok ⟨t.toArray⟩ (by rw [hsz]; omega) _ hA w0) ?_
  rintro e w' ⟨rfl, hw⟩
  refine ⟨_, rfl, .inl ⟨hlt, rfl⟩, ?_⟩
  rcases hw with rfl | ⟨u, rfl⟩
  ·exact Gr.refl _ _
  exact Gr.of_bytes _ _
 rw [if_neg hlt] at hA
 obtain ⟨te, pe, hc⟩ := hrng
 refine Calls.mono (Tryz.strconv_Atoi_range ⟨t.toArray⟩ (by rw [hsz]; omega) hA _ w0 hc (.inr ⟨te, pe, rfl⟩)) ?_
 rintro e w' ⟨N, rfl, -, -, hb⟩
 exact ⟨_, rfl, .inr ⟨hlt, _, _, rfl, _, _, rfl⟩, Gr.of_below hb⟩
end Go.Proofs.YtogfnbkccfkpoaaGreatDoor
