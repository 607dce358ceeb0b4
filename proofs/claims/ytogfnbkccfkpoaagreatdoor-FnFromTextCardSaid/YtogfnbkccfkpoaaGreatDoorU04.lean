/- A part (4) of the proof of the row of laws.FnFromText: lemmas on RdC, Enc, Sel, Nam, SpN. No condition but what each statement says. -/
import Derived.Test.YtogfnbkccfkpoaaGreatDoorU03
import Derived.Laws.OwnMore
set_option linter.unusedSimpArgs false
set_option linter.unusedVariables false
set_option maxRecDepth 100000
namespace Go.Proofs.YtogfnbkccfkpoaaGreatDoor
open Go Go.RowKit
open Eng
def Sp.count2 (sign : Int) (r : Rd) : Int × Int × Rd :=
 let (n, is, r) := Sp.digits r
 let c := Sp.next r
 if ¬ c = 110 ∧ ¬ c = 78 then
  let r := (r.orBad (!is)).orUns (Sp.anyBack r.s r.pos)
  let r := r.orUns (Sp.here r [111, 102])
  (0, sign * n, r)
 else
  let r := (r.adv 1)
  let n : Nat := if is then n else 1
  let start := r.pos
  let (_, r) := Sp.spaces r
  let c := Sp.next r
  if ¬ c = 43 ∧ ¬ c = 45 then
   (sign * n, 0, r.orUns ((r.pos == start && (Sp.nameByte c || c == 92)) || c == 111 || c == 79 || (decide (48 ≤ c) && decide (c ≤ 57))))
  else
   let r := (r.adv 1)
   let (_, r) := Sp.spaces r
   let (k, was, r) := Sp.digits r
   let r := r.orBad (!was)
   (sign * n, if c = 45 then -(k : Int) else k, r)
theorem Sp.count_odd {r r1 : Rd} (e1 : Sp.word r [111, 100, 100] = (true, r1)) : Sp.count r = (2, 1, r1) := by
 unfold Sp.count; simp only [e1]; rfl
theorem Sp.count_even {r r1 r2 : Rd} (e1 : Sp.word r [111, 100, 100] = (false, r1)) (e2 : Sp.word r1 [101, 118, 101, 110] = (true, r2)) : Sp.count r = (2, 0, r2) := by
 unfold Sp.count; simp only [e1, e2]; rfl
theorem Sp.count_minus {r r1 r2 r3 : Rd} (e1 : Sp.word r [111, 100, 100] = (false, r1)) (e2 : Sp.word r1 [101, 118, 101, 110] = (false, r2)) (e3 : Sp.taken r2 [45] = (true, r3)) : Sp.count r = Sp.count2 (-1) r3 := by
 unfold Sp.count Sp.count2; simp only [e1, e2, e3]; rfl
theorem Sp.count_plus {r r1 r2 r3 r4 : Rd} {is : Bool} (e1 : Sp.word r [111, 100, 100] = (false, r1)) (e2 : Sp.word r1 [101, 118, 101, 110] = (false, r2)) (e3 : Sp.taken r2 [45] = (false, r3)) (e4 : Sp.taken r3 [43] = (is, r4)) : Sp.count r = Sp.count2 1 r4 := by
 unfold Sp.count Sp.count2; simp only [e1, e2, e3, Bool.false_eq_true, if_false, e4]
theorem Sp.count2_A {s : List UInt8} {p n : Nat} {b u ps is : Bool} {r : Rd} {sg : Int} (e : Sp.digits r = (n, is, ⟨s, p, b, u, ps⟩)) (hc : ¬ Sp.nx s p = 110 ∧ ¬ Sp.nx s p = 78) : Sp.count2 sg r = (0, sg * n, ⟨s, p, b || !is, (u || Sp.anyBack s p) || Sp.hereAt s p [111, 102], ps⟩) := by
 unfold Sp.count2; simp only [e, Sp.next_mk]; rw [if_pos hc]; rfl
theorem Sp.count2_B {s : List UInt8} {p n p2 : Nat} {b u ps is v b2 u2 : Bool} {r : Rd} {sg : Int} (e : Sp.digits r = (n, is, ⟨s, p, b, u, ps⟩)) (hc : Sp.nx s p = 110 ∨ Sp.nx s p = 78) (e2 : Sp.spaces ⟨s, p + 1, b, u, ps⟩ = (v, ⟨s, p2, b2, u2, ps⟩)) (hc2 : ¬ Sp.nx s p2 = 43 ∧ ¬ Sp.nx s p2 = 45) : Sp.count2 sg r = (sg * ((if is then n else 1 : Nat) : Int), 0, ⟨s, p2, b2, u2 || ((p2 == p + 1 && (Sp.nameByte (Sp.nx s p2) || Sp.nx s p2 == 92)) || Sp.nx s p2 == 111 || Sp.nx s p2 == 79 || (decide (48 ≤ Sp.nx s p2) && decide (Sp.nx s p2 ≤ 57))), ps⟩) := by
 have h1 : Rd.adv ⟨s, p, b, u, ps⟩ 1 = ⟨s, p + 1, b, u, ps⟩ := rfl
 unfold Sp.count2; simp only [e, Sp.next_mk]; rw [if_neg om]; simp only [h1, e2, Sp.next_mk]; rw [if_pos hc2]; rfl
theorem Sp.count2_C {s : List UInt8} {p n p2 p3 p4 k : Nat} {b u ps is v b2 u2 v3 b3 u3 b4 u4 was : Bool} {r : Rd} {sg : Int} (e : Sp.digits r = (n, is, ⟨s, p, b, u, ps⟩)) (hc : Sp.nx s p = 110 ∨ Sp.nx s p = 78) (e2 : Sp.spaces ⟨s, p + 1, b, u, ps⟩ = (v, ⟨s, p2, b2, u2, ps⟩)) (hc2 : Sp.nx s p2 = 43 ∨ Sp.nx s p2 = 45) (e3 : Sp.spaces ⟨s, p2 + 1, b2, u2, ps⟩ = (v3, ⟨s, p3, b3, u3, ps⟩)) (e4 : Sp.digits ⟨s, p3, b3, u3, ps⟩ = (k, was, ⟨s, p4, b4, u4, ps⟩)) : Sp.count2 sg r = (sg * ((if is then n else 1 : Nat) : Int), if Sp.nx s p2 = 45 then -(k : Int) else k, ⟨s, p4, b4 || !was, u4, ps⟩) := by
 have h1 : Rd.adv ⟨s, p, b, u, ps⟩ 1 = ⟨s, p + 1, b, u, ps⟩ := rfl
 have h2 : Rd.adv ⟨s, p2, b2, u2, ps⟩ 1 = ⟨s, p2 + 1, b2, u2, ps⟩ := rfl
 unfold Sp.count2; simp only [e, Sp.next_mk]; rw [if_neg om]; simp only [h1, e2, Sp.next_mk]; rw [if_neg om]; simp only [h2, e3, e4]; rfl
theorem Sp.sg_mul {sg n : Int} (h : sg = 1 ∨ sg = -1) (h0 : 0 ≤ n) (h1 : n ≤ 100000) : -9223372036854775808 ≤ sg * n ∧ sg * n ≤ 9223372036854775807 := by
 rcases h with rfl | rfl <;> omega
theorem Sp.digits_split (s : List UInt8) (p : Nat) (b u ps : Bool) (h : p ≤ s.length + 1) : ∃ n is p' b' u', Sp.digits ⟨s, p, b, u, ps⟩ = (n, is, ⟨s, p', b', u', ps⟩) ∧ p ≤ p' ∧ p' ≤ s.length + 1 ∧ n ≤ 100000 := by
 obtain ⟨h1, h2⟩ := Sp.digits_le ⟨s, p, b, u, ps⟩ h
 generalize Sp.digits ⟨s, p, b, u, ps⟩ = x at *
 obtain ⟨n, is, r⟩ := x
 obtain ⟨p', b', u', e, h3, h4, -⟩ := h1.is
 simp only at e
 subst e
 exact ⟨n, is, p', b', u', rfl, h3, h4, h2⟩
def Sp.anyBk (s : List UInt8) (p j : Nat) : Bool := ((s.drop p).take j).any fun c => c.toNat == 92
theorem Sp.anyBk_succ (s : List UInt8) (p j : Nat) (h : p + j < s.length) : Sp.anyBk s p (j + 1) = (Sp.anyBk s p j || byteAt s (p + j) == 92) := by
 unfold Sp.anyBk
 rw [List.take_succ_eq_append_getElem sM, List.any_append]
 simp [byteAt, h]
theorem Sp.anyBk_end (s : List UInt8) (p j : Nat) (h : s.length ≤ p + j ∨ j = 4) (hj : j ≤ 4) : Sp.anyBk s p j = Sp.anyBack s p := by
 unfold Sp.anyBk Sp.anyBack
 rcases h with h | rfl
 ·rw [List.take_of_length_le sM, List.take_of_length_le sM]
 rfl
theorem Sp.unsB_true {u2 nb : Bool} {p2 q c : Nat} (h : u2 = true ∨ (p2 = q ∧ (nb = true ∨ c = 92)) ∨ (c = 111 ∨ c = 79 ∨ 48 ≤ c ∧ c ≤ 57)) : (u2 || ((p2 == q && (nb || c == 92)) || c == 111 || c == 79 || (decide (48 ≤ c) && decide (c ≤ 57)))) = true := by
 rcases h with rfl | ⟨rfl, rfl | rfl⟩ | rfl | rfl | ⟨h1, h2⟩ <;> simp [*]
theorem Sp.unsB_false {nb : Bool} {p2 q c : Nat} (h : p2 = q → nb = false ∧ ¬ c = 92) (h3 : ¬ (c = 111 ∨ c = 79 ∨ 48 ≤ c ∧ c ≤ 57)) : (false || ((p2 == q && (nb || c == 92)) || c == 111 || c == 79 || (decide (48 ≤ c) && decide (c ≤ 57)))) = false := by
 have h1 : ¬ c = 111 := by omega
 have h2 : ¬ c = 79 := by omega
 have h4 : (decide (48 ≤ c) && decide (c ≤ 57)) = false := by
  by_cases h5 : 48 ≤ c
  ·have : ¬ c ≤ 57 := by omega
   simp [this]
  simp [h5]
 rw [h4]
 by_cases hp : p2 = q
 ·obtain ⟨rfl, h6⟩ := h hp
  simp [h1, h2, h6]
 simp [h1, h2, hp]
theorem Sp.word_no {s t : List UInt8} {p : Nat} {b u ps : Bool} (h : s.length < p + t.length ∨ ¬ Sp.lower ((s.drop p).take (p + t.length - p)) = t ∨ p + t.length < s.length ∧ (Sp.nameByte (byteAt s (p + t.length)) = true ∨ byteAt s (p + t.length) = 92)) : Sp.word ⟨s, p, b, u, ps⟩ t = (false, ⟨s, p, b, u, ps⟩) := by
 rw [Nat.add_sub_cancel_left] at h
 unfold Sp.word
 dsimp only
 rw [if_pos h]
theorem Sp.word_yes {s t : List UInt8} {p : Nat} {b u ps : Bool} (h1 : ¬ s.length < p + t.length) (h2 : Sp.lower ((s.drop p).take (p + t.length - p)) = t) (h3 : p + t.length < s.length → Sp.nameByte (byteAt s (p + t.length)) = false ∧ ¬ byteAt s (p + t.length) = 92) : Sp.word ⟨s, p, b, u, ps⟩ t = (true, ⟨s, p + t.length, b, u, ps⟩) := by
 rw [Nat.add_sub_cancel_left] at h2
 unfold Sp.word
 dsimp only
 rw [if_neg]
 ·rfl
 rintro (h | h | ⟨h, h4 | h4⟩)
 ·exact h1 h
 ·exact h h2
 ·rw [(h3 h).1] at h4; cases h4
 exact (h3 h).2 h4
theorem small_calls (g : Nat) (s : List UInt8) (p0 : Nat) (b0 u0 ps : Bool) (w0 : World) (hr : RD g ⟨s, p0, b0, u0, ps⟩ w0) (hb : s.length ≤ 1000) (hp : p0 ≤ s.length + 1) (t : List UInt8) (ht : t.length ≤ 5000) :
 CR PR 74 [pP g, str t] w0 fun v w' => v = str (Sp.small ⟨s, p0, b0, u0, ps⟩ t).1 ∧ RD g (Sp.small ⟨s, p0, b0, u0, ps⟩ t).2 w' ∧ Gr w0 w' (some g) := by
 have hr : RK g s p0 b0 u0 ps _ := hr
 have hG : Gr w0 w0 (some g) := Gr.refl _ _
 refine CR.of (n := 27) [(0, pP g), (1, str t)] Tryz.func74 rfl Tryz.ntmps74 rfl ⟨rfl, rfl, trivial⟩<|qr<|pr 1 rfl<|nsq<|qr<|pr 1 rfl<|ns<|rO<|sB [(0, pP g), (1, str t), (5, .int .i64 ((0 : Nat) : Int))] rfl<|C.loop (fun m l w' => ∃ (i : Nat) (u : Bool), l = [(0, pP g), (1, str t), (5, .int .i64 (i : Int))] ∧ RD g ⟨s, p0, b0, u, ps⟩ w' ∧ Gr w0 w' (some g) ∧ u = (u0 || Sp.anyAt t i) ∧ i ≤ t.length ∧ t.length < i + m) (t.length + 1) (⟨0, u0, rfl, hr, hG, by simp [Sp.anyAt], om, om⟩) ?_
 rintro m l w ⟨i, u, rfl, hr, hG, hU, hil, hm⟩
 have hr : RK g s p0 b0 u ps _ := hr
 refine qqr<|pr 2 rfl<|qq (R.lenS rfl u9) rfl<|qq (R.ltI rfl rfl) rfl<|ns<|cD rfl (fun h1 => ?_) fun h1 => ?_
 ·refine ksq<|rO<|rR<|pr 3 rfl<|fA fo38_3 rfl<|W.splitB (R.load sc4 rfl hr rfl) rfl rfl rfl (fun h2 => ?_) (fun h2 => ?_)
  ·subst h2
   have hr : RK g s p0 b0 true ps _ := hr
   refine pr 7 rfl<|fA fo38_3 rfl<|sT sc4 hr rfl fun w hr hs => ?_
   have hr : RK g s p0 b0 true ps _ := hr
   have hG := hG.trans hs
   refine nbs<|rR<|pr 1 rfl<|aK rfl rfl<|pr 1 rfl<|rN ?_
   obtain ⟨m, rfl⟩ := sU m
   have hU2 : true = (u0 || Sp.anyAt t (i + 1)) := by
    rw [Sp.anyAt_succ t i om, ← Bool.or_assoc, ← hU]
    first | rfl | (simp; omega)
   exact cT [(0, pP g), (1, str t), (5, .int .i64 ((i + 1 : Nat) : Int))] rfl ⟨m, om, i + 1, _, rfl, hr, hG, hU2, om, om⟩
  subst h2
  have hr : RK g s p0 b0 false ps _ := hr
  refine pr 3 rfl<|gg (R.idxS rfl rfl _ rfl om u9) rfl<|W.gsplit rfl (R.geI rfl rfl) rfl rfl rfl (fun h3 => ?_) (fun h3 => ?_)
  ·refine pr 2 rfl<|fA fo38_3 rfl<|sT sc4 hr rfl fun w hr hs => ?_
   have hr : RK g s p0 b0 true ps _ := hr
   have hG := hG.trans hs
   refine nbs<|rR<|pr 1 rfl<|aK rfl rfl<|pr 1 rfl<|rN ?_
   obtain ⟨m, rfl⟩ := sU m
   have hU2 : true = (u0 || Sp.anyAt t (i + 1)) := by
    rw [Sp.anyAt_succ t i om, ← Bool.or_assoc, ← hU]
    first | rfl | (simp; omega)
   exact cT [(0, pP g), (1, str t), (5, .int .i64 ((i + 1 : Nat) : Int))] rfl ⟨m, om, i + 1, _, rfl, hr, hG, hU2, om, om⟩
  refine pr 2 rfl<|fA fo38_3 rfl<|sT sc4 hr rfl fun w hr hs => ?_
  have hr : RK g s p0 b0 false ps _ := hr
  have hG := hG.trans hs
  refine nbs<|rR<|pr 1 rfl<|aK rfl rfl<|pr 1 rfl<|rN ?_
  obtain ⟨m, rfl⟩ := sU m
  have hU2 : false = (u0 || Sp.anyAt t (i + 1)) := by
   rw [Sp.anyAt_succ t i om, ← Bool.or_assoc, ← hU]
   first | rfl | (simp; omega)
  exact cT [(0, pP g), (1, str t), (5, .int .i64 ((i + 1 : Nat) : Int))] rfl ⟨m, om, i + 1, _, rfl, hr, hG, hU2, om, om⟩
 refine rE<|rX<|rX<|rY<|sqr<|pr 1 rfl<|eN en35 rfl (lower_calls _ _ om) fun v w hv => ?_
 obtain ⟨rfl, hv⟩ := hv
 have hr := hr.grN hv
 have hG := hG.trans (hv.no _)
 refine pr 1 rfl<|nst<|rA rfl rfl ?_
 rw [Sp.anyAt_end t i om] at hU
 exact ⟨rfl, hr.cast (by rw [hU]; rfl), hG⟩
theorem word_calls (g : Nat) (s : List UInt8) (p0 : Nat) (b0 u0 ps : Bool) (w0 : World) (hr : RD g ⟨s, p0, b0, u0, ps⟩ w0) (hb : s.length ≤ 1000) (hp : p0 ≤ s.length + 1) (t : List UInt8) (ht : t.length ≤ 100) :
 CR PR 80 [pP g, str t] w0 fun v w' => v = .bool (Sp.word ⟨s, p0, b0, u0, ps⟩ t).1 ∧ RD g (Sp.word ⟨s, p0, b0, u0, ps⟩ t).2 w' ∧ Gr w0 w' (some g) := by
 have hr : RK g s p0 b0 u0 ps _ := hr
 have hG : Gr w0 w0 (some g) := Gr.refl _ _
 refine CR.of (n := 66) [(0, pP g), (1, str t)] Tryz.func80 rfl Tryz.ntmps80 rfl ⟨rfl, rfl, trivial⟩<|qr<|pr 1 rfl<|nsqr<|pr 2 rfl<|fA fo38_1 rfl<|lD sc3 hr rfl rfl<|pr 1 rfl<|qq (R.lenS rfl u9) rfl<|qq (R.addN rfl rfl om) rfl<|pr 1 rfl<|nsq<|rQ<|dR<|prq 3 rfl<|fQ fo38_0 rfl<|lQ sc9 hr rfl rfl<|qw (fun w hw => R.lenS rfl u9) rfl<|Wq.split (fun w hw => R.gtI rfl rfl) rfl rfl rfl (fun h1 => ?_) (fun h1 => ?_)
 ·refine prq 42 rfl<|Wq.nil fun w hw => ?_
  have hr := hr.grN hw
  have hG := hG.trans (hw.no _)
  refine rS<|cV rfl<|qr<|pr 1 rfl<|nsth<|rA rfl rfl ?_
  have hW : Sp.word ⟨s, p0, b0, u0, ps⟩ t = _ := Sp.word_no ?h1
  case h1 => first | (left; omega) | (right; left; assumption) | (right; right; refine ⟨?_, ?_⟩; omega; first | (left; assumption) | (right; omega))
  rw [hW]
  exact ⟨rfl, hr, hG⟩
 refine prq 3 rfl<|gw (fun w hw => R.fieldAddr fo38_0 rfl) rfl<|gw (fun w hw => R.load sc9 rfl (hr.grN hw) rfl) rfl<|prq 2 rfl<|gw (fun w hw => R.fieldAddr fo38_1 rfl) rfl<|gw (fun w hw => R.load sc3 rfl (hr.grN hw) rfl) rfl<|prq 1 rfl<|gw (fun w hw => R.sliceS rfl rfl rfl rfl rfl om om u9) rfl<|Wq.genter rfl (fun w hw => R.call en35 rfl) rfl rfl rfl (fun w hw => ((lower_calls _ _ sM)).mono fun v w' hv => ⟨hv.1, Gr.trans hw hv.2⟩)<|prq 1 rfl<|Wq.gsplit rfl (fun w hw => R.neS rfl rfl) rfl rfl rfl (fun h2 => ?_) (fun h2 => ?_)
 ·refine prq 28 rfl<|Wq.nil fun w hw => ?_
  have hr := hr.grN hw
  have hG := hG.trans (hw.no _)
  refine rS<|cV rfl<|qr<|pr 1 rfl<|nsth<|rA rfl rfl ?_
  have hW : Sp.word ⟨s, p0, b0, u0, ps⟩ t = _ := Sp.word_no ?h1
  case h1 => first | (left; omega) | (right; left; assumption) | (right; right; refine ⟨?_, ?_⟩; omega; first | (left; assumption) | (right; omega))
  rw [hW]
  exact ⟨rfl, hr, hG⟩
 refine prq 5 rfl<|gw (fun w hw => R.fieldAddr fo38_0 rfl) rfl<|gw (fun w hw => R.load sc9 rfl (hr.grN hw) rfl) rfl<|gw (fun w hw => R.lenS rfl u9) rfl<|Wq.gsplit rfl (fun w hw => R.ltI rfl rfl) rfl rfl rfl (fun h3 => ?_) (fun h3 => ?_)
 ·refine prq 3 rfl<|gw (fun w hw => R.fieldAddr fo38_0 rfl) rfl<|gw (fun w hw => R.load sc9 rfl (hr.grN hw) rfl) rfl<|prq 1 rfl<|gw (fun w hw => R.idxS rfl rfl _ rfl om u9) rfl<|Wq.genter rfl (fun w hw => R.call en54 rfl) rfl rfl rfl (fun w hw => (nameByte_calls _ _).mono fun v w' hv => ⟨hv.1, Gr.trans hw hv.2⟩) ?_
  cases hb3 : Sp.nameByte (byteAt s (p0 + t.length))
  ·refine prq 3 rfl<|gw (fun w hw => R.fieldAddr fo38_0 rfl) rfl<|gw (fun w hw => R.load sc9 rfl (hr.grN hw) rfl) rfl<|prq 1 rfl<|gw (fun w hw => R.idxS rfl rfl _ rfl om u9) rfl<|Wq.gsplit rfl (fun w hw => R.eqI rfl rfl) rfl rfl rfl (fun h5 => ?_) (fun h5 => ?_)
   ·refine prq 3 rfl<|Wq.nil fun w hw => ?_
    have hr := hr.grN hw
    have hG := hG.trans (hw.no _)
    refine rS<|cV rfl<|qr<|pr 1 rfl<|nsth<|rA rfl rfl ?_
    have hW : Sp.word ⟨s, p0, b0, u0, ps⟩ t = _ := Sp.word_no ?h1
    case h1 => first | (left; omega) | (right; left; assumption) | (right; right; refine ⟨?_, ?_⟩; omega; first | (left; assumption) | (right; omega))
    rw [hW]
    exact ⟨rfl, hr, hG⟩
   refine prq 3 rfl<|Wq.nil fun w hw => ?_
   have hr := hr.grN hw
   have hG := hG.trans (hw.no _)
   refine rS<|cF rfl<|ksqr<|pr 3 rfl<|fA fo38_1 rfl<|sT sc3 hr rfl fun w hr hs => ?_
   have hr : RK g s (p0 + t.length) b0 u0 ps _ := hr
   have hG := hG.trans hs
   refine nsqr<|pr 1 rfl<|nst<|rA rfl rfl ?_
   have hW : Sp.word ⟨s, p0, b0, u0, ps⟩ t = _ := Sp.word_yes ?h1 ?h2 ?h3
   case h1 => omega
   case h2 => first | assumption | exact Decidable.not_not.mp aM
   case h3 => intro hh; refine ⟨?_, ?_⟩ <;> first | assumption | omega | (exfalso; omega)
   rw [hW]
   exact ⟨rfl, hr, hG⟩
  refine prq 11 rfl<|Wq.nil fun w hw => ?_
  have hr := hr.grN hw
  have hG := hG.trans (hw.no _)
  refine rS<|cV rfl<|qr<|pr 1 rfl<|nsth<|rA rfl rfl ?_
  have hW : Sp.word ⟨s, p0, b0, u0, ps⟩ t = _ := Sp.word_no ?h1
  case h1 => first | (left; omega) | (right; left; assumption) | (right; right; refine ⟨?_, ?_⟩; omega; first | (left; assumption) | (right; omega))
  rw [hW]
  exact ⟨rfl, hr, hG⟩
 refine prq 19 rfl<|Wq.nil fun w hw => ?_
 have hr := hr.grN hw
 have hG := hG.trans (hw.no _)
 refine rS<|cF rfl<|ksqr<|pr 3 rfl<|fA fo38_1 rfl<|sT sc3 hr rfl fun w hr hs => ?_
 have hr : RK g s (p0 + t.length) b0 u0 ps _ := hr
 have hG := hG.trans hs
 refine nsqr<|pr 1 rfl<|nst<|rA rfl rfl ?_
 have hW : Sp.word ⟨s, p0, b0, u0, ps⟩ t = _ := Sp.word_yes ?h1 ?h2 ?h3
 case h1 => omega
 case h2 => first | assumption | exact Decidable.not_not.mp aM
 case h3 => intro hh; refine ⟨?_, ?_⟩ <;> first | assumption | omega | (exfalso; omega)
 rw [hW]
 exact ⟨rfl, hr, hG⟩
set_option maxHeartbeats 4000000 in
theorem count_calls (g : Nat) (s : List UInt8) (p0 : Nat) (b0 u0 ps : Bool) (w0 : World) (hr : RD g ⟨s, p0, b0, u0, ps⟩ w0) (hb : s.length ≤ 1000) (hp : p0 ≤ s.length + 1) :
 CR PR 73 [pP g] w0 fun v w' => v = .tuple #[.int .i64 (Sp.count ⟨s, p0, b0, u0, ps⟩).1, .int .i64 (Sp.count ⟨s, p0, b0, u0, ps⟩).2.1] ∧ RD g (Sp.count ⟨s, p0, b0, u0, ps⟩).2.2 w' ∧ Gr w0 w' (some g) := by
 have hr : RK g s p0 b0 u0 ps _ := hr
 have hG : Gr w0 w0 (some g) := Gr.refl _ _
 refine CR.of (n := 195) [(0, pP g)] Tryz.func73 rfl Tryz.ntmps73 rfl ⟨rfl, trivial⟩<|qr<|pr 2 rfl<|nsq<|qr<|pr 1 rfl<|eN en80 rfl (word_calls g s p0 b0 u0 ps _ hr hb om [111, 100, 100] dC) fun v w hv => ?_
 obtain ⟨v1, p1, b1, u1, e1, hp1a, hp1b, hb1, hu1⟩ := Sp.Le.split (f := Sp.word ⟨s, p0, b0, u0, ps⟩ [111, 100, 100]) (Sp.word_le ⟨s, p0, b0, u0, ps⟩ [111, 100, 100] okk)
 obtain ⟨hv1, hro, hv⟩ := hv
 rw [e1] at hv1 hro
 have hv1 : v = .bool v1 := hv1
 subst hv1
 clear hr
 have hr : RD g ⟨s, p1, b1, u1, ps⟩ w := hro
 clear hro
 have hG := hG.trans hv
 have hr : RK g s p1 b1 u1 ps _ := hr
 refine ns<|cC rfl (fun h2 => ?_) (fun h2 => ?_)
 ·try simp only [Bool.not_eq_true', Bool.not_eq_false'] at h2
  subst h2
  have hr : RK g s p1 b1 u1 ps _ := hr
  refine qr<|pr 2 rfl<|nsth<|At.res2 rfl rfl rfl ?_
  rw [Sp.count_odd e1]
  exact ⟨rfl, hr, hG⟩
 try simp only [Bool.not_eq_true', Bool.not_eq_false'] at h2
 subst h2
 have hr : RK g s p1 b1 u1 ps _ := hr
 refine ksq<|qr<|pr 1 rfl<|eN en80 rfl (word_calls g s p1 b1 u1 ps _ hr hb om [101, 118, 101, 110] dC) fun v w hv => ?_
 obtain ⟨v3, p3, b3, u3, e3, hp3a, hp3b, hb3, hu3⟩ := Sp.Le.split (f := Sp.word ⟨s, p1, b1, u1, ps⟩ [101, 118, 101, 110]) (Sp.word_le ⟨s, p1, b1, u1, ps⟩ [101, 118, 101, 110] okk)
 obtain ⟨hv1, hro, hv⟩ := hv
 rw [e3] at hv1 hro
 have hv1 : v = .bool v3 := hv1
 subst hv1
 clear hr
 have hr : RD g ⟨s, p3, b3, u3, ps⟩ w := hro
 clear hro
 have hG := hG.trans hv
 have hr : RK g s p3 b3 u3 ps _ := hr
 refine ns<|cC rfl (fun h4 => ?_) (fun h4 => ?_)
 ·try simp only [Bool.not_eq_true', Bool.not_eq_false'] at h4
  subst h4
  have hr : RK g s p3 b3 u3 ps _ := hr
  refine qr<|pr 2 rfl<|nsth<|At.res2 rfl rfl rfl ?_
  rw [Sp.count_even e1 e3]
  exact ⟨rfl, hr, hG⟩
 try simp only [Bool.not_eq_true', Bool.not_eq_false'] at h4
 subst h4
 have hr : RK g s p3 b3 u3 ps _ := hr
 refine ksqr<|pr 1 rfl<|ns<|C.cut (fun l w' => ∃ (p : Nat) (b u : Bool) (sg : Int), l = [(0, pP g), (4, .int .i64 sg)] ∧ RD g ⟨s, p, b, u, ps⟩ w' ∧ Gr w0 w' (some g) ∧ p ≤ s.length + 1 ∧ (sg = 1 ∨ sg = -1) ∧ Sp.count ⟨s, p0, b0, u0, ps⟩ = Sp.count2 sg ⟨s, p, b, u, ps⟩) ?_ ?_
 ·refine qr<|pr 1 rfl<|eN en18 rfl (taken_calls g ⟨s, p3, b3, u3, ps⟩ _ hr hb sO [45] dC) fun v w hv => ?_
  obtain ⟨v5, p5, b5, u5, e5, hp5a, hp5b, hb5, hu5⟩ := Sp.Le.split (f := Sp.taken ⟨s, p3, b3, u3, ps⟩ [45]) (Sp.taken_le ⟨s, p3, b3, u3, ps⟩ [45] okk)
  obtain ⟨hv1, hro, hv⟩ := hv
  rw [e5] at hv1 hro
  have hv1 : v = .bool v5 := hv1
  subst hv1
  clear hr
  have hr : RD g ⟨s, p5, b5, u5, ps⟩ w := hro
  clear hro
  have hG := hG.trans hv
  have hr : RK g s p5 b5 u5 ps _ := hr
  refine ns<|cC rfl (fun h6 => ?_) (fun h6 => ?_)
  ·try simp only [Bool.not_eq_true', Bool.not_eq_false'] at h6
   subst h6
   have hr : RK g s p5 b5 u5 ps _ := hr
   exact rR<|pr 1 rfl<|rN<|cT [(0, pP g), (4, .int .i64 (-1))] rfl ⟨p5, b5, u5, -1, rfl, hr, hG, om, om, Sp.count_minus e1 e3 e5⟩
  try simp only [Bool.not_eq_true', Bool.not_eq_false'] at h6
  subst h6
  have hr : RK g s p5 b5 u5 ps _ := hr
  refine rR<|pr 1 rfl<|eN en18 rfl (taken_calls g ⟨s, p5, b5, u5, ps⟩ _ hr hb sO [43] dC) fun v w hv => ?_
  obtain ⟨v7, p7, b7, u7, e7, hp7a, hp7b, hb7, hu7⟩ := Sp.Le.split (f := Sp.taken ⟨s, p5, b5, u5, ps⟩ [43]) (Sp.taken_le ⟨s, p5, b5, u5, ps⟩ [43] okk)
  obtain ⟨hv1, hro, hv⟩ := hv
  rw [e7] at hv1 hro
  have hv1 : v = .bool v7 := hv1
  subst hv1
  clear hr
  have hr : RD g ⟨s, p7, b7, u7, ps⟩ w := hro
  clear hro
  have hG := hG.trans hv
  have hr : RK g s p7 b7 u7 ps _ := hr
  exact rN<|cT [(0, pP g), (4, .int .i64 (1))] rfl ⟨p7, b7, u7, 1, rfl, hr, hG, om, om, Sp.count_plus e1 e3 e5 e7⟩
 rintro l w ⟨p, b, u, sg, rfl, hr, hG, hpl, hsg, hC⟩
 have hr : RK g s p b u ps _ := hr
 refine qr<|pr 1 rfl<|eN en81 rfl (digits_calls g ⟨s, p, b, u, ps⟩ _ hr hb sO) fun v w hv => ?_
 obtain ⟨n8, is8, p8, b8, u8, e8, hp8a, hp8b, hn8⟩ := Sp.digits_split s p b u ps om
 obtain ⟨hv1, hro, hv⟩ := hv
 rw [e8] at hv1 hro
 have hv1 : v = .tuple #[.int .i64 (n8 : Int), .bool is8] := hv1
 subst hv1
 clear hr
 have hr : RD g ⟨s, p8, b8, u8, ps⟩ w := hro
 clear hro
 have hG := hG.trans hv
 have hr : RK g s p8 b8 u8 ps _ := hr
 refine pr 5 rfl<|ns<|C.cut (fun l w' => l = [(0, pP g), (4, .int .i64 sg), (5, .int .i64 (n8 : Int)), (6, .bool is8)] ∧ RD g ⟨s, p8, b8, u8, ps⟩ w' ∧ Gr w0 w' (some g) ∧ (Sp.nx s p8 = 110 ∨ Sp.nx s p8 = 78)) ?_ ?_
 ·refine qr<|pr 1 rfl<|eN en26 rfl (nx_calls g s p8 b8 u8 ps _ hr hb om) fun v w hv => ?_
  obtain ⟨rfl, hv⟩ := hv
  have hr := hr.grN hv
  have hG := hG.trans (hv.no _)
  have hnx := Sp.nx_lt s (p8)
  refine pr 1 rfl<|nsqr<|pr 1 rfl<|W.split (R.neI rfl rfl) rfl rfl rfl (fun h9 => ?_) (fun h9 => ?_)
  ·refine pr 2 rfl<|gg (R.neI rfl rfl) rfl<|pr 1 rfl<|ns<|cD rfl (fun h10 => ?_) fun h10 => ?_
   ·refine qr<|pr 3 rfl<|fA fo38_2 rfl<|W.splitB (R.load sc4 rfl hr rfl) rfl rfl rfl (fun h11 => ?_) (fun h11 => ?_)
    ·subst h11
     have hr : RK g s p8 true u8 ps _ := hr
     refine pr 5 rfl<|fA fo38_2 rfl<|sT sc4 hr rfl fun w hr hs => ?_
     have hr : RK g s p8 true u8 ps _ := hr
     have hG := hG.trans hs
     refine nsq<|qr<|pr 2 rfl<|fA fo38_1 rfl<|lD sc3 hr rfl rfl<|pr 1 rfl<|ns<|rO<|sB [(0, pP g), (4, .int .i64 sg), (5, .int .i64 (n8 : Int)), (8, .int .i64 (p8 : Int))] rfl<|C.loop (fun m l w' => ∃ (k : Nat) (u : Bool), l = [(0, pP g), (4, .int .i64 sg), (5, .int .i64 (n8 : Int)), (8, .int .i64 (k : Int))] ∧ RD g ⟨s, p8, true, u, ps⟩ w' ∧ Gr w0 w' (some g) ∧ u = (u8 || Sp.anyBk s p8 (k - p8)) ∧ p8 ≤ k ∧ k + m = p8 + 4) (4) (⟨p8, u8, rfl, hr, hG, by simp [Sp.anyBk], om, om⟩) ?_
     rintro m l w ⟨k, u, rfl, hr, hG, hU, hk1, hk2⟩
     have hr : RK g s p8 true u ps _ := hr
     refine qqr<|pr 3 rfl<|fA fo38_0 rfl<|lD sc9 hr rfl rfl<|qq (R.lenS rfl u9) rfl<|W.split (R.ltI rfl rfl) rfl rfl rfl (fun h12 => ?_) (fun h12 => ?_)
     ·refine pr 4 rfl<|gg (R.fieldAddr fo38_1 rfl) rfl<|gg (R.load sc3 rfl hr rfl) rfl<|gg (R.addK 4 rfl rfl om) rfl<|gg (R.ltI rfl rfl) rfl<|pr 1 rfl<|ns<|cD rfl (fun h13 => ?_) fun h13 => ?_
      ·refine ksq<|rO<|rR<|pr 3 rfl<|fA fo38_3 rfl<|W.splitB (R.load sc4 rfl hr rfl) rfl rfl rfl (fun h14 => ?_) (fun h14 => ?_)
       ·subst h14
        have hr : RK g s p8 true true ps _ := hr
        refine pr 10 rfl<|fA fo38_3 rfl<|sT sc4 hr rfl fun w hr hs => ?_
        have hr : RK g s p8 true true ps _ := hr
        have hG := hG.trans hs
        refine nbs<|rR<|pr 1 rfl<|aK rfl rfl<|pr 1 rfl<|rN ?_
        obtain ⟨m, rfl⟩ := sU m
        have hU2 : true = (u8 || Sp.anyBk s p8 (k + 1 - p8)) := by
         rw [show k + 1 - p8 = (k - p8) + 1 by omega, Sp.anyBk_succ s _ _ om, ← Bool.or_assoc, ← hU, show p8 + (k - p8) = k by omega]
         first | rfl | (simp; omega)
        exact cT [(0, pP g), (4, .int .i64 sg), (5, .int .i64 (n8 : Int)), (8, .int .i64 ((k + 1 : Nat) : Int))] rfl ⟨m, om, k + 1, _, rfl, hr, hG, hU2, om, om⟩
       subst h14
       have hr : RK g s p8 true false ps _ := hr
       refine pr 3 rfl<|gg (R.fieldAddr fo38_0 rfl) rfl<|gg (R.load sc9 rfl hr rfl) rfl<|pr 1 rfl<|gg (R.idxS rfl rfl _ rfl om u9) rfl<|W.gsplit rfl (R.eqI rfl rfl) rfl rfl rfl (fun h15 => ?_) (fun h15 => ?_)
       ·refine pr 2 rfl<|fA fo38_3 rfl<|sT sc4 hr rfl fun w hr hs => ?_
        have hr : RK g s p8 true true ps _ := hr
        have hG := hG.trans hs
        refine nbs<|rR<|pr 1 rfl<|aK rfl rfl<|pr 1 rfl<|rN ?_
        obtain ⟨m, rfl⟩ := sU m
        have hU2 : true = (u8 || Sp.anyBk s p8 (k + 1 - p8)) := by
         rw [show k + 1 - p8 = (k - p8) + 1 by omega, Sp.anyBk_succ s _ _ om, ← Bool.or_assoc, ← hU, show p8 + (k - p8) = k by omega]
         first | rfl | (simp; omega)
        exact cT [(0, pP g), (4, .int .i64 sg), (5, .int .i64 (n8 : Int)), (8, .int .i64 ((k + 1 : Nat) : Int))] rfl ⟨m, om, k + 1, _, rfl, hr, hG, hU2, om, om⟩
       refine pr 2 rfl<|fA fo38_3 rfl<|sT sc4 hr rfl fun w hr hs => ?_
       have hr : RK g s p8 true false ps _ := hr
       have hG := hG.trans hs
       refine nbs<|rR<|pr 1 rfl<|aK rfl rfl<|pr 1 rfl<|rN ?_
       obtain ⟨m, rfl⟩ := sU m
       have hU2 : false = (u8 || Sp.anyBk s p8 (k + 1 - p8)) := by
        rw [show k + 1 - p8 = (k - p8) + 1 by omega, Sp.anyBk_succ s _ _ om, ← Bool.or_assoc, ← hU, show p8 + (k - p8) = k by omega]
        first | rfl | (simp; omega)
       exact cT [(0, pP g), (4, .int .i64 sg), (5, .int .i64 (n8 : Int)), (8, .int .i64 ((k + 1 : Nat) : Int))] rfl ⟨m, om, k + 1, _, rfl, hr, hG, hU2, om, om⟩
      refine rE<|rX<|rX<|rY<|sqr<|pr 3 rfl<|fA fo38_3 rfl<|W.splitB (R.load sc4 rfl hr rfl) rfl rfl rfl (fun h16 => ?_) (fun h16 => ?_)
      ·subst h16
       have hr : RK g s p8 true true ps _ := hr
       refine pr 5 rfl<|fA fo38_3 rfl<|sT sc4 hr rfl fun w hr hs => ?_
       have hr : RK g s p8 true true ps _ := hr
       have hG := hG.trans hs
       refine nsqr<|pr 2 rfl<|qq (R.mulTo (sg * (n8 : Int)) rfl rfl (IntWalk.i64_in _ (Sp.sg_mul hsg om om))) rfl<|pr 2 rfl<|nsth<|At.res2 rfl rfl rfl ?_
       rw [hC, Sp.count2_A e8 om]
       rw [Sp.anyBk_end s _ _ om om] at hU
       rw [← hU]
       refine ⟨rfl, hr.cast ?_, hG⟩
       simp [Rd.cells]
      subst h16
      have hr : RK g s p8 true false ps _ := hr
      refine pr 2 rfl<|gN rfl en29 rfl (hereAt_calls g s p8 true false ps _ hr hb om [111, 102] dC) fun v w hv => ?_
      obtain ⟨rfl, hv⟩ := hv
      have hr := hr.grN hv
      have hG := hG.trans (hv.no _)
      refine pr 2 rfl<|fA fo38_3 rfl<|sT sc4 hr rfl fun w hr hs => ?_
      have hr : Blk _ g 38 [str s, .int .i64 ((p8 : Nat) : Int), .bool true, .bool ((Sp.hereAt s p8 [111, 102])), .bool ps] := hr
      have hG := hG.trans hs
      refine nsqr<|pr 2 rfl<|qq (R.mulTo (sg * (n8 : Int)) rfl rfl (IntWalk.i64_in _ (Sp.sg_mul hsg om om))) rfl<|pr 2 rfl<|nsth<|At.res2 rfl rfl rfl ?_
      rw [hC, Sp.count2_A e8 om]
      rw [Sp.anyBk_end s _ _ om om] at hU
      rw [← hU]
      refine ⟨rfl, hr.cast ?_, hG⟩
      simp [Rd.cells]
     refine pr 9 rfl<|ns<|cF rfl<|rE<|rX<|rX<|rY<|sqr<|pr 3 rfl<|fA fo38_3 rfl<|W.splitB (R.load sc4 rfl hr rfl) rfl rfl rfl (fun h17 => ?_) (fun h17 => ?_)
     ·subst h17
      have hr : RK g s p8 true true ps _ := hr
      refine pr 5 rfl<|fA fo38_3 rfl<|sT sc4 hr rfl fun w hr hs => ?_
      have hr : RK g s p8 true true ps _ := hr
      have hG := hG.trans hs
      refine nsqr<|pr 2 rfl<|qq (R.mulTo (sg * (n8 : Int)) rfl rfl (IntWalk.i64_in _ (Sp.sg_mul hsg om om))) rfl<|pr 2 rfl<|nsth<|At.res2 rfl rfl rfl ?_
      rw [hC, Sp.count2_A e8 om]
      rw [Sp.anyBk_end s _ _ om om] at hU
      rw [← hU]
      refine ⟨rfl, hr.cast ?_, hG⟩
      simp [Rd.cells]
     subst h17
     have hr : RK g s p8 true false ps _ := hr
     refine pr 2 rfl<|gN rfl en29 rfl (hereAt_calls g s p8 true false ps _ hr hb om [111, 102] dC) fun v w hv => ?_
     obtain ⟨rfl, hv⟩ := hv
     have hr := hr.grN hv
     have hG := hG.trans (hv.no _)
     refine pr 2 rfl<|fA fo38_3 rfl<|sT sc4 hr rfl fun w hr hs => ?_
     have hr : Blk _ g 38 [str s, .int .i64 ((p8 : Nat) : Int), .bool true, .bool ((Sp.hereAt s p8 [111, 102])), .bool ps] := hr
     have hG := hG.trans hs
     refine nsqr<|pr 2 rfl<|qq (R.mulTo (sg * (n8 : Int)) rfl rfl (IntWalk.i64_in _ (Sp.sg_mul hsg om om))) rfl<|pr 2 rfl<|nsth<|At.res2 rfl rfl rfl ?_
     rw [hC, Sp.count2_A e8 om]
     rw [Sp.anyBk_end s _ _ om om] at hU
     rw [← hU]
     refine ⟨rfl, hr.cast ?_, hG⟩
     simp [Rd.cells]
    subst h11
    have hr : RK g s p8 false u8 ps _ := hr
    refine pr 5 rfl<|fA fo38_2 rfl<|sT sc4 hr rfl fun w hr hs => ?_
    have hr : Blk _ g 38 [str s, .int .i64 ((p8 : Nat) : Int), .bool !is8, .bool u8, .bool ps] := hr
    have hG := hG.trans hs
    refine nsq<|qr<|pr 2 rfl<|fA fo38_1 rfl<|lD sc3 hr rfl rfl<|pr 1 rfl<|ns<|rO<|sB [(0, pP g), (4, .int .i64 sg), (5, .int .i64 (n8 : Int)), (8, .int .i64 (p8 : Int))] rfl<|C.loop (fun m l w' => ∃ (k : Nat) (u : Bool), l = [(0, pP g), (4, .int .i64 sg), (5, .int .i64 (n8 : Int)), (8, .int .i64 (k : Int))] ∧ RD g ⟨s, p8, !is8, u, ps⟩ w' ∧ Gr w0 w' (some g) ∧ u = (u8 || Sp.anyBk s p8 (k - p8)) ∧ p8 ≤ k ∧ k + m = p8 + 4) (4) (⟨p8, u8, rfl, hr, hG, by simp [Sp.anyBk], om, om⟩) ?_
    rintro m l w ⟨k, u, rfl, hr, hG, hU, hk1, hk2⟩
    have hr : Blk _ g 38 [str s, .int .i64 ((p8 : Nat) : Int), .bool !is8, .bool u, .bool ps] := hr
    refine qqr<|pr 3 rfl<|fA fo38_0 rfl<|lD sc9 hr rfl rfl<|qq (R.lenS rfl u9) rfl<|W.split (R.ltI rfl rfl) rfl rfl rfl (fun h18 => ?_) (fun h18 => ?_)
    ·refine pr 4 rfl<|gg (R.fieldAddr fo38_1 rfl) rfl<|gg (R.load sc3 rfl hr rfl) rfl<|gg (R.addK 4 rfl rfl om) rfl<|gg (R.ltI rfl rfl) rfl<|pr 1 rfl<|ns<|cD rfl (fun h19 => ?_) fun h19 => ?_
     ·refine ksq<|rO<|rR<|pr 3 rfl<|fA fo38_3 rfl<|W.splitB (R.load sc4 rfl hr rfl) rfl rfl rfl (fun h20 => ?_) (fun h20 => ?_)
      ·subst h20
       have hr : Blk _ g 38 [str s, .int .i64 ((p8 : Nat) : Int), .bool !is8, .bool true, .bool ps] := hr
       refine pr 10 rfl<|fA fo38_3 rfl<|sT sc4 hr rfl fun w hr hs => ?_
       have hr : Blk _ g 38 [str s, .int .i64 ((p8 : Nat) : Int), .bool !is8, .bool true, .bool ps] := hr
       have hG := hG.trans hs
       refine nbs<|rR<|pr 1 rfl<|aK rfl rfl<|pr 1 rfl<|rN ?_
       obtain ⟨m, rfl⟩ := sU m
       have hU2 : true = (u8 || Sp.anyBk s p8 (k + 1 - p8)) := by
        rw [show k + 1 - p8 = (k - p8) + 1 by omega, Sp.anyBk_succ s _ _ om, ← Bool.or_assoc, ← hU, show p8 + (k - p8) = k by omega]
        first | rfl | (simp; omega)
       exact cT [(0, pP g), (4, .int .i64 sg), (5, .int .i64 (n8 : Int)), (8, .int .i64 ((k + 1 : Nat) : Int))] rfl ⟨m, om, k + 1, _, rfl, hr, hG, hU2, om, om⟩
      subst h20
      have hr : Blk _ g 38 [str s, .int .i64 ((p8 : Nat) : Int), .bool !is8, .bool false, .bool ps] := hr
      refine pr 3 rfl<|gg (R.fieldAddr fo38_0 rfl) rfl<|gg (R.load sc9 rfl hr rfl) rfl<|pr 1 rfl<|gg (R.idxS rfl rfl _ rfl om u9) rfl<|W.gsplit rfl (R.eqI rfl rfl) rfl rfl rfl (fun h21 => ?_) (fun h21 => ?_)
      ·refine pr 2 rfl<|fA fo38_3 rfl<|sT sc4 hr rfl fun w hr hs => ?_
       have hr : Blk _ g 38 [str s, .int .i64 ((p8 : Nat) : Int), .bool !is8, .bool true, .bool ps] := hr
       have hG := hG.trans hs
       refine nbs<|rR<|pr 1 rfl<|aK rfl rfl<|pr 1 rfl<|rN ?_
       obtain ⟨m, rfl⟩ := sU m
       have hU2 : true = (u8 || Sp.anyBk s p8 (k + 1 - p8)) := by
        rw [show k + 1 - p8 = (k - p8) + 1 by omega, Sp.anyBk_succ s _ _ om, ← Bool.or_assoc, ← hU, show p8 + (k - p8) = k by omega]
        first | rfl | (simp; omega)
       exact cT [(0, pP g), (4, .int .i64 sg), (5, .int .i64 (n8 : Int)), (8, .int .i64 ((k + 1 : Nat) : Int))] rfl ⟨m, om, k + 1, _, rfl, hr, hG, hU2, om, om⟩
      refine pr 2 rfl<|fA fo38_3 rfl<|sT sc4 hr rfl fun w hr hs => ?_
      have hr : Blk _ g 38 [str s, .int .i64 ((p8 : Nat) : Int), .bool !is8, .bool false, .bool ps] := hr
      have hG := hG.trans hs
      refine nbs<|rR<|pr 1 rfl<|aK rfl rfl<|pr 1 rfl<|rN ?_
      obtain ⟨m, rfl⟩ := sU m
      have hU2 : false = (u8 || Sp.anyBk s p8 (k + 1 - p8)) := by
       rw [show k + 1 - p8 = (k - p8) + 1 by omega, Sp.anyBk_succ s _ _ om, ← Bool.or_assoc, ← hU, show p8 + (k - p8) = k by omega]
       first | rfl | (simp; omega)
      exact cT [(0, pP g), (4, .int .i64 sg), (5, .int .i64 (n8 : Int)), (8, .int .i64 ((k + 1 : Nat) : Int))] rfl ⟨m, om, k + 1, _, rfl, hr, hG, hU2, om, om⟩
     refine rE<|rX<|rX<|rY<|sqr<|pr 3 rfl<|fA fo38_3 rfl<|W.splitB (R.load sc4 rfl hr rfl) rfl rfl rfl (fun h22 => ?_) (fun h22 => ?_)
     ·subst h22
      have hr : Blk _ g 38 [str s, .int .i64 ((p8 : Nat) : Int), .bool !is8, .bool true, .bool ps] := hr
      refine pr 5 rfl<|fA fo38_3 rfl<|sT sc4 hr rfl fun w hr hs => ?_
      have hr : Blk _ g 38 [str s, .int .i64 ((p8 : Nat) : Int), .bool !is8, .bool true, .bool ps] := hr
      have hG := hG.trans hs
      refine nsqr<|pr 2 rfl<|qq (R.mulTo (sg * (n8 : Int)) rfl rfl (IntWalk.i64_in _ (Sp.sg_mul hsg om om))) rfl<|pr 2 rfl<|nsth<|At.res2 rfl rfl rfl ?_
      rw [hC, Sp.count2_A e8 om]
      rw [Sp.anyBk_end s _ _ om om] at hU
      rw [← hU]
      refine ⟨rfl, hr.cast ?_, hG⟩
      simp [Rd.cells]
     subst h22
     have hr : Blk _ g 38 [str s, .int .i64 ((p8 : Nat) : Int), .bool !is8, .bool false, .bool ps] := hr
     refine pr 2 rfl<|gN rfl en29 rfl (hereAt_calls g s p8 (!is8) false ps _ hr hb om [111, 102] dC) fun v w hv => ?_
     obtain ⟨rfl, hv⟩ := hv
     have hr := hr.grN hv
     have hG := hG.trans (hv.no _)
     refine pr 2 rfl<|fA fo38_3 rfl<|sT sc4 hr rfl fun w hr hs => ?_
     have hr : Blk _ g 38 [str s, .int .i64 ((p8 : Nat) : Int), .bool !is8, .bool ((Sp.hereAt s p8 [111, 102])), .bool ps] := hr
     have hG := hG.trans hs
     refine nsqr<|pr 2 rfl<|qq (R.mulTo (sg * (n8 : Int)) rfl rfl (IntWalk.i64_in _ (Sp.sg_mul hsg om om))) rfl<|pr 2 rfl<|nsth<|At.res2 rfl rfl rfl ?_
     rw [hC, Sp.count2_A e8 om]
     rw [Sp.anyBk_end s _ _ om om] at hU
     rw [← hU]
     refine ⟨rfl, hr.cast ?_, hG⟩
     simp [Rd.cells]
    refine pr 9 rfl<|ns<|cF rfl<|rE<|rX<|rX<|rY<|sqr<|pr 3 rfl<|fA fo38_3 rfl<|W.splitB (R.load sc4 rfl hr rfl) rfl rfl rfl (fun h23 => ?_) (fun h23 => ?_)
    ·subst h23
     have hr : Blk _ g 38 [str s, .int .i64 ((p8 : Nat) : Int), .bool !is8, .bool true, .bool ps] := hr
     refine pr 5 rfl<|fA fo38_3 rfl<|sT sc4 hr rfl fun w hr hs => ?_
     have hr : Blk _ g 38 [str s, .int .i64 ((p8 : Nat) : Int), .bool !is8, .bool true, .bool ps] := hr
     have hG := hG.trans hs
     refine nsqr<|pr 2 rfl<|qq (R.mulTo (sg * (n8 : Int)) rfl rfl (IntWalk.i64_in _ (Sp.sg_mul hsg om om))) rfl<|pr 2 rfl<|nsth<|At.res2 rfl rfl rfl ?_
     rw [hC, Sp.count2_A e8 om]
     rw [Sp.anyBk_end s _ _ om om] at hU
     rw [← hU]
     refine ⟨rfl, hr.cast ?_, hG⟩
     simp [Rd.cells]
    subst h23
    have hr : Blk _ g 38 [str s, .int .i64 ((p8 : Nat) : Int), .bool !is8, .bool false, .bool ps] := hr
    refine pr 2 rfl<|gN rfl en29 rfl (hereAt_calls g s p8 (!is8) false ps _ hr hb om [111, 102] dC) fun v w hv => ?_
    obtain ⟨rfl, hv⟩ := hv
    have hr := hr.grN hv
    have hG := hG.trans (hv.no _)
    refine pr 2 rfl<|fA fo38_3 rfl<|sT sc4 hr rfl fun w hr hs => ?_
    have hr : Blk _ g 38 [str s, .int .i64 ((p8 : Nat) : Int), .bool !is8, .bool ((Sp.hereAt s p8 [111, 102])), .bool ps] := hr
    have hG := hG.trans hs
    refine nsqr<|pr 2 rfl<|qq (R.mulTo (sg * (n8 : Int)) rfl rfl (IntWalk.i64_in _ (Sp.sg_mul hsg om om))) rfl<|pr 2 rfl<|nsth<|At.res2 rfl rfl rfl ?_
    rw [hC, Sp.count2_A e8 om]
    rw [Sp.anyBk_end s _ _ om om] at hU
    rw [← hU]
    refine ⟨rfl, hr.cast ?_, hG⟩
    simp [Rd.cells]
   exact rK<|cT [(0, pP g), (4, .int .i64 sg), (5, .int .i64 (n8 : Int)), (6, .bool is8)] rfl ⟨rfl, hr, hG, om⟩
  exact pr 4 rfl<|ns<|cF rfl<|rK<|cT [(0, pP g), (4, .int .i64 sg), (5, .int .i64 (n8 : Int)), (6, .bool is8)] rfl ⟨rfl, hr, hG, om⟩
 rintro l w ⟨rfl, hr, hG, hc⟩
 have hr : RK g s p8 b8 u8 ps _ := hr
 refine rQ ?_
 have hps := Sp.nx_pos (s := s) (p := p8) om
 refine rR<|pr 2 rfl<|fA fo38_1 rfl<|lD sc3 hr rfl rfl<|aK rfl rfl<|pr 1 rfl<|fA fo38_1 rfl<|sT sc3 hr rfl fun w hr hs => ?_
 have hr : RK g s (p8 + 1) b8 u8 ps _ := hr
 have hG := hG.trans hs
 refine ns<|C.cut (fun l w' => ∃ N : Nat, l = [(0, pP g), (4, .int .i64 sg), (5, .int .i64 (N : Int))] ∧ RD g ⟨s, p8 + 1, b8, u8, ps⟩ w' ∧ Gr w0 w' (some g) ∧ (if is8 then n8 else 1) = N ∧ N ≤ 100000) ?_ ?_
 ·refine qr<|pr 2 rfl<|ns<|cC rfl (fun h24 => ?_) (fun h24 => ?_)
  ·try simp only [Bool.not_eq_true', Bool.not_eq_false'] at h24
   subst h24
   have hr : RK g s (p8 + 1) b8 u8 ps _ := hr
   refine rR<|pr 1 rfl<|rN ?_
   exact cT [(0, pP g), (4, .int .i64 sg), (5, .int .i64 (((1 : Nat)) : Int))] rfl ⟨1, rfl, hr, hG, by simp, om⟩
  try simp only [Bool.not_eq_true', Bool.not_eq_false'] at h24
  subst h24
  have hr : RK g s (p8 + 1) b8 u8 ps _ := hr
  refine rK ?_
  exact cT [(0, pP g), (4, .int .i64 sg), (5, .int .i64 (((n8 : Nat)) : Int))] rfl ⟨n8, rfl, hr, hG, by simp, om⟩
 rintro l w ⟨N, rfl, hr, hG, hN, hN2⟩
 have hr : RK g s (p8 + 1) b8 u8 ps _ := hr
 refine qr<|pr 2 rfl<|fA fo38_1 rfl<|lD sc3 hr rfl rfl<|pr 1 rfl<|nsqr<|pr 1 rfl<|eN en24 rfl (spaces_calls g ⟨s, p8 + 1, b8, u8, ps⟩ _ hr hb sO) fun v w hv => ?_
 obtain ⟨v25, p25, b25, u25, e25, hp25a, hp25b, hb25, hu25⟩ := Sp.Le.split (f := Sp.spaces ⟨s, p8 + 1, b8, u8, ps⟩) (Sp.spaces_le ⟨s, p8 + 1, b8, u8, ps⟩ okk)
 obtain ⟨hv1, hro, hv⟩ := hv
 rw [e25] at hv1 hro
 have hv1 : v = .bool v25 := hv1
 subst hv1
 clear hr
 have hr : RD g ⟨s, p25, b25, u25, ps⟩ w := hro
 clear hro
 have hG := hG.trans hv
 have hr : RK g s p25 b25 u25 ps _ := hr
 refine nsqr<|pr 1 rfl<|eN en26 rfl (nx_calls g s p25 b25 u25 ps _ hr hb om) fun v w hv => ?_
 obtain ⟨rfl, hv⟩ := hv
 have hr := hr.grN hv
 have hG := hG.trans (hv.no _)
 have hnx := Sp.nx_lt s (p25)
 refine pr 1 rfl<|ns<|C.cut (fun l w' => l = [(0, pP g), (4, .int .i64 sg), (5, .int .i64 (N : Int)), (10, .int .u8 (Sp.nx s p25 : Int))] ∧ RD g ⟨s, p25, b25, u25, ps⟩ w' ∧ Gr w0 w' (some g) ∧ (Sp.nx s p25 = 43 ∨ Sp.nx s p25 = 45)) ?_ ?_
 ·refine qr<|pr 1 rfl<|W.split (R.neI rfl rfl) rfl rfl rfl (fun h26 => ?_) (fun h26 => ?_)
  ·refine pr 2 rfl<|gg (R.neI rfl rfl) rfl<|pr 1 rfl<|ns<|cD rfl (fun h27 => ?_) fun h27 => ?_
   ·refine qr<|pr 3 rfl<|fA fo38_3 rfl<|W.splitB (R.load sc4 rfl hr rfl) rfl rfl rfl (fun h28 => ?_) (fun h28 => ?_)
    ·subst h28
     have hr : RK g s p25 b25 true ps _ := hr
     refine pr 33 rfl<|fA fo38_3 rfl<|sT sc4 hr rfl fun w hr hs => ?_
     have hr : RK g s p25 b25 true ps _ := hr
     have hG := hG.trans hs
     refine nsqr<|pr 2 rfl<|qq (R.mulTo (sg * (N : Int)) rfl rfl (IntWalk.i64_in _ (Sp.sg_mul hsg om om))) rfl<|pr 2 rfl<|nsth<|At.res2 rfl rfl rfl ?_
     rw [hC, Sp.count2_B e8 om e25 om, hN]
     refine ⟨?_, hr.cast (congrArg (fun x => Rd.cells ⟨_, _, _, x, _⟩) (Eq.symm ?_)), hG⟩
     simp
     refine Sp.unsB_true ?_
     first | (left; rfl) | (right; right; omega) | (right; left; refine ⟨?_, ?_⟩; omega; first | (left; assumption) | (right; omega))
    subst h28
    have hr : RK g s p25 b25 false ps _ := hr
    refine pr 3 rfl<|gg (R.fieldAddr fo38_1 rfl) rfl<|gg (R.load sc3 rfl hr rfl) rfl<|pr 1 rfl<|W.gsplit rfl (R.eqI rfl rfl) rfl rfl rfl (fun h29 => ?_) (fun h29 => ?_)
    ·refine pr 2 rfl<|gN rfl en54 rfl (nameByte_calls _ _) fun v w hv => ?_
     obtain ⟨rfl, hv⟩ := hv
     have hr := hr.grN hv
     have hG := hG.trans (hv.no _)
     cases hb29 : Sp.nameByte (Sp.nx s (p25))
     ·refine pr 2 rfl<|W.gsplit rfl (R.eqI rfl rfl) rfl rfl rfl (fun h31 => ?_) (fun h31 => ?_)
      ·refine pr 20 rfl<|fA fo38_3 rfl<|sT sc4 hr rfl fun w hr hs => ?_
       have hr : RK g s p25 b25 true ps _ := hr
       have hG := hG.trans hs
       refine nsqr<|pr 2 rfl<|qq (R.mulTo (sg * (N : Int)) rfl rfl (IntWalk.i64_in _ (Sp.sg_mul hsg om om))) rfl<|pr 2 rfl<|nsth<|At.res2 rfl rfl rfl ?_
       rw [hC, Sp.count2_B e8 om e25 om, hN]
       refine ⟨?_, hr.cast (congrArg (fun x => Rd.cells ⟨_, _, _, x, _⟩) (Eq.symm ?_)), hG⟩
       simp
       refine Sp.unsB_true ?_
       first | (left; rfl) | (right; right; omega) | (right; left; refine ⟨?_, ?_⟩; omega; first | (left; assumption) | (right; omega))
      refine pr 5 rfl<|W.gsplit rfl (R.eqI rfl rfl) rfl rfl rfl (fun h32 => ?_) (fun h32 => ?_)
      ·refine pr 14 rfl<|fA fo38_3 rfl<|sT sc4 hr rfl fun w hr hs => ?_
       have hr : RK g s p25 b25 true ps _ := hr
       have hG := hG.trans hs
       refine nsqr<|pr 2 rfl<|qq (R.mulTo (sg * (N : Int)) rfl rfl (IntWalk.i64_in _ (Sp.sg_mul hsg om om))) rfl<|pr 2 rfl<|nsth<|At.res2 rfl rfl rfl ?_
       rw [hC, Sp.count2_B e8 om e25 om, hN]
       refine ⟨?_, hr.cast (congrArg (fun x => Rd.cells ⟨_, _, _, x, _⟩) (Eq.symm ?_)), hG⟩
       simp
       refine Sp.unsB_true ?_
       first | (left; rfl) | (right; right; omega) | (right; left; refine ⟨?_, ?_⟩; omega; first | (left; assumption) | (right; omega))
      refine pr 3 rfl<|W.gsplit rfl (R.eqI rfl rfl) rfl rfl rfl (fun h33 => ?_) (fun h33 => ?_)
      ·refine pr 10 rfl<|fA fo38_3 rfl<|sT sc4 hr rfl fun w hr hs => ?_
       have hr : RK g s p25 b25 true ps _ := hr
       have hG := hG.trans hs
       refine nsqr<|pr 2 rfl<|qq (R.mulTo (sg * (N : Int)) rfl rfl (IntWalk.i64_in _ (Sp.sg_mul hsg om om))) rfl<|pr 2 rfl<|nsth<|At.res2 rfl rfl rfl ?_
       rw [hC, Sp.count2_B e8 om e25 om, hN]
       refine ⟨?_, hr.cast (congrArg (fun x => Rd.cells ⟨_, _, _, x, _⟩) (Eq.symm ?_)), hG⟩
       simp
       refine Sp.unsB_true ?_
       first | (left; rfl) | (right; right; omega) | (right; left; refine ⟨?_, ?_⟩; omega; first | (left; assumption) | (right; omega))
      refine pr 3 rfl<|W.gsplit rfl (R.geI rfl rfl) rfl rfl rfl (fun h34 => ?_) (fun h34 => ?_)
      ·refine pr 2 rfl<|W.gsplit rfl (R.leI rfl rfl) rfl rfl rfl (fun h35 => ?_) (fun h35 => ?_)
       ·refine pr 3 rfl<|fA fo38_3 rfl<|sT sc4 hr rfl fun w hr hs => ?_
        have hr : RK g s p25 b25 true ps _ := hr
        have hG := hG.trans hs
        refine nsqr<|pr 2 rfl<|qq (R.mulTo (sg * (N : Int)) rfl rfl (IntWalk.i64_in _ (Sp.sg_mul hsg om om))) rfl<|pr 2 rfl<|nsth<|At.res2 rfl rfl rfl ?_
        rw [hC, Sp.count2_B e8 om e25 om, hN]
        refine ⟨?_, hr.cast (congrArg (fun x => Rd.cells ⟨_, _, _, x, _⟩) (Eq.symm ?_)), hG⟩
        simp
        refine Sp.unsB_true ?_
        first | (left; rfl) | (right; right; omega) | (right; left; refine ⟨?_, ?_⟩; omega; first | (left; assumption) | (right; omega))
       refine pr 3 rfl<|fA fo38_3 rfl<|sT sc4 hr rfl fun w hr hs => ?_
       have hr : RK g s p25 b25 false ps _ := hr
       have hG := hG.trans hs
       refine nsqr<|pr 2 rfl<|qq (R.mulTo (sg * (N : Int)) rfl rfl (IntWalk.i64_in _ (Sp.sg_mul hsg om om))) rfl<|pr 2 rfl<|nsth<|At.res2 rfl rfl rfl ?_
       rw [hC, Sp.count2_B e8 om e25 om, hN]
       refine ⟨?_, hr.cast (congrArg (fun x => Rd.cells ⟨_, _, _, x, _⟩) (Eq.symm ?_)), hG⟩
       simp
       refine Sp.unsB_false (fun hh => ?_) ?_
       refine ⟨?_, ?_⟩ <;> first | assumption | omega | (exfalso; omega)
       omega
      refine pr 6 rfl<|fA fo38_3 rfl<|sT sc4 hr rfl fun w hr hs => ?_
      have hr : RK g s p25 b25 false ps _ := hr
      have hG := hG.trans hs
      refine nsqr<|pr 2 rfl<|qq (R.mulTo (sg * (N : Int)) rfl rfl (IntWalk.i64_in _ (Sp.sg_mul hsg om om))) rfl<|pr 2 rfl<|nsth<|At.res2 rfl rfl rfl ?_
      rw [hC, Sp.count2_B e8 om e25 om, hN]
      refine ⟨?_, hr.cast (congrArg (fun x => Rd.cells ⟨_, _, _, x, _⟩) (Eq.symm ?_)), hG⟩
      simp
      refine Sp.unsB_false (fun hh => ?_) ?_
      refine ⟨?_, ?_⟩ <;> first | assumption | omega | (exfalso; omega)
      omega
     refine pr 23 rfl<|fA fo38_3 rfl<|sT sc4 hr rfl fun w hr hs => ?_
     have hr : RK g s p25 b25 true ps _ := hr
     have hG := hG.trans hs
     refine nsqr<|pr 2 rfl<|qq (R.mulTo (sg * (N : Int)) rfl rfl (IntWalk.i64_in _ (Sp.sg_mul hsg om om))) rfl<|pr 2 rfl<|nsth<|At.res2 rfl rfl rfl ?_
     rw [hC, Sp.count2_B e8 om e25 om, hN]
     refine ⟨?_, hr.cast (congrArg (fun x => Rd.cells ⟨_, _, _, x, _⟩) (Eq.symm ?_)), hG⟩
     simp
     refine Sp.unsB_true ?_
     first | (left; rfl) | (right; right; omega) | (right; left; refine ⟨?_, ?_⟩; omega; first | (left; assumption) | (right; omega))
    refine pr 11 rfl<|W.gsplit rfl (R.eqI rfl rfl) rfl rfl rfl (fun h36 => ?_) (fun h36 => ?_)
    ·refine pr 14 rfl<|fA fo38_3 rfl<|sT sc4 hr rfl fun w hr hs => ?_
     have hr : RK g s p25 b25 true ps _ := hr
     have hG := hG.trans hs
     refine nsqr<|pr 2 rfl<|qq (R.mulTo (sg * (N : Int)) rfl rfl (IntWalk.i64_in _ (Sp.sg_mul hsg om om))) rfl<|pr 2 rfl<|nsth<|At.res2 rfl rfl rfl ?_
     rw [hC, Sp.count2_B e8 om e25 om, hN]
     refine ⟨?_, hr.cast (congrArg (fun x => Rd.cells ⟨_, _, _, x, _⟩) (Eq.symm ?_)), hG⟩
     simp
     refine Sp.unsB_true ?_
     first | (left; rfl) | (right; right; omega) | (right; left; refine ⟨?_, ?_⟩; omega; first | (left; assumption) | (right; omega))
    refine pr 3 rfl<|W.gsplit rfl (R.eqI rfl rfl) rfl rfl rfl (fun h37 => ?_) (fun h37 => ?_)
    ·refine pr 10 rfl<|fA fo38_3 rfl<|sT sc4 hr rfl fun w hr hs => ?_
     have hr : RK g s p25 b25 true ps _ := hr
     have hG := hG.trans hs
     refine nsqr<|pr 2 rfl<|qq (R.mulTo (sg * (N : Int)) rfl rfl (IntWalk.i64_in _ (Sp.sg_mul hsg om om))) rfl<|pr 2 rfl<|nsth<|At.res2 rfl rfl rfl ?_
     rw [hC, Sp.count2_B e8 om e25 om, hN]
     refine ⟨?_, hr.cast (congrArg (fun x => Rd.cells ⟨_, _, _, x, _⟩) (Eq.symm ?_)), hG⟩
     simp
     refine Sp.unsB_true ?_
     first | (left; rfl) | (right; right; omega) | (right; left; refine ⟨?_, ?_⟩; omega; first | (left; assumption) | (right; omega))
    refine pr 3 rfl<|W.gsplit rfl (R.geI rfl rfl) rfl rfl rfl (fun h38 => ?_) (fun h38 => ?_)
    ·refine pr 2 rfl<|W.gsplit rfl (R.leI rfl rfl) rfl rfl rfl (fun h39 => ?_) (fun h39 => ?_)
     ·refine pr 3 rfl<|fA fo38_3 rfl<|sT sc4 hr rfl fun w hr hs => ?_
      have hr : RK g s p25 b25 true ps _ := hr
      have hG := hG.trans hs
      refine nsqr<|pr 2 rfl<|qq (R.mulTo (sg * (N : Int)) rfl rfl (IntWalk.i64_in _ (Sp.sg_mul hsg om om))) rfl<|pr 2 rfl<|nsth<|At.res2 rfl rfl rfl ?_
      rw [hC, Sp.count2_B e8 om e25 om, hN]
      refine ⟨?_, hr.cast (congrArg (fun x => Rd.cells ⟨_, _, _, x, _⟩) (Eq.symm ?_)), hG⟩
      simp
      refine Sp.unsB_true ?_
      first | (left; rfl) | (right; right; omega) | (right; left; refine ⟨?_, ?_⟩; omega; first | (left; assumption) | (right; omega))
     refine pr 3 rfl<|fA fo38_3 rfl<|sT sc4 hr rfl fun w hr hs => ?_
     have hr : RK g s p25 b25 false ps _ := hr
     have hG := hG.trans hs
     refine nsqr<|pr 2 rfl<|qq (R.mulTo (sg * (N : Int)) rfl rfl (IntWalk.i64_in _ (Sp.sg_mul hsg om om))) rfl<|pr 2 rfl<|nsth<|At.res2 rfl rfl rfl ?_
     rw [hC, Sp.count2_B e8 om e25 om, hN]
     refine ⟨?_, hr.cast (congrArg (fun x => Rd.cells ⟨_, _, _, x, _⟩) (Eq.symm ?_)), hG⟩
     simp
     refine Sp.unsB_false (fun hh => ?_) ?_
     refine ⟨?_, ?_⟩ <;> first | assumption | omega | (exfalso; omega)
     omega
    refine pr 6 rfl<|fA fo38_3 rfl<|sT sc4 hr rfl fun w hr hs => ?_
    have hr : RK g s p25 b25 false ps _ := hr
    have hG := hG.trans hs
    refine nsqr<|pr 2 rfl<|qq (R.mulTo (sg * (N : Int)) rfl rfl (IntWalk.i64_in _ (Sp.sg_mul hsg om om))) rfl<|pr 2 rfl<|nsth<|At.res2 rfl rfl rfl ?_
    rw [hC, Sp.count2_B e8 om e25 om, hN]
    refine ⟨?_, hr.cast (congrArg (fun x => Rd.cells ⟨_, _, _, x, _⟩) (Eq.symm ?_)), hG⟩
    simp
    refine Sp.unsB_false (fun hh => ?_) ?_
    refine ⟨?_, ?_⟩ <;> first | assumption | omega | (exfalso; omega)
    omega
   exact rK<|cT [(0, pP g), (4, .int .i64 sg), (5, .int .i64 (N : Int)), (10, .int .u8 (Sp.nx s p25 : Int))] rfl ⟨rfl, hr, hG, om⟩
  exact pr 4 rfl<|ns<|cF rfl<|rK<|cT [(0, pP g), (4, .int .i64 sg), (5, .int .i64 (N : Int)), (10, .int .u8 (Sp.nx s p25 : Int))] rfl ⟨rfl, hr, hG, om⟩
 rintro l w ⟨rfl, hr, hG, hc2⟩
 have hr : RK g s p25 b25 u25 ps _ := hr
 refine rQ ?_
 have hps2 := Sp.nx_pos (s := s) (p := p25) om
 refine rR<|pr 2 rfl<|fA fo38_1 rfl<|lD sc3 hr rfl rfl<|aK rfl rfl<|pr 1 rfl<|fA fo38_1 rfl<|sT sc3 hr rfl fun w hr hs => ?_
 have hr : RK g s (p25 + 1) b25 u25 ps _ := hr
 have hG := hG.trans hs
 refine nsqr<|pr 1 rfl<|eN en24 rfl (spaces_calls g ⟨s, p25 + 1, b25, u25, ps⟩ _ hr hb sO) fun v w hv => ?_
 obtain ⟨v40, p40, b40, u40, e40, hp40a, hp40b, hb40, hu40⟩ := Sp.Le.split (f := Sp.spaces ⟨s, p25 + 1, b25, u25, ps⟩) (Sp.spaces_le ⟨s, p25 + 1, b25, u25, ps⟩ okk)
 obtain ⟨hv1, hro, hv⟩ := hv
 rw [e40] at hv1 hro
 have hv1 : v = .bool v40 := hv1
 subst hv1
 clear hr
 have hr : RD g ⟨s, p40, b40, u40, ps⟩ w := hro
 clear hro
 have hG := hG.trans hv
 have hr : RK g s p40 b40 u40 ps _ := hr
 refine nsqr<|pr 1 rfl<|eN en81 rfl (digits_calls g ⟨s, p40, b40, u40, ps⟩ _ hr hb sO) fun v w hv => ?_
 obtain ⟨n41, is41, p41, b41, u41, e41, hp41a, hp41b, hn41⟩ := Sp.digits_split s p40 b40 u40 ps om
 obtain ⟨hv1, hro, hv⟩ := hv
 rw [e41] at hv1 hro
 have hv1 : v = .tuple #[.int .i64 (n41 : Int), .bool is41] := hv1
 subst hv1
 clear hr
 have hr : RD g ⟨s, p41, b41, u41, ps⟩ w := hro
 clear hro
 have hG := hG.trans hv
 have hr : RK g s p41 b41 u41 ps _ := hr
 refine pr 5 rfl<|nsqr<|pr 3 rfl<|fA fo38_2 rfl<|W.splitB (R.load sc4 rfl hr rfl) rfl rfl rfl (fun h42 => ?_) (fun h42 => ?_)
 ·subst h42
  have hr : RK g s p41 true u41 ps _ := hr
  refine pr 5 rfl<|fA fo38_2 rfl<|sT sc4 hr rfl fun w hr hs => ?_
  have hr : RK g s p41 true u41 ps _ := hr
  have hG := hG.trans hs
  refine nsq<|qr<|pr 1 rfl<|qq (R.eqI rfl rfl) rfl<|ns<|cD rfl (fun h43 => ?_) fun h43 => ?_
  ·refine rR<|pr 1 rfl<|qq (R.neg rfl (IntWalk.i64_in _ om)) rfl<|pr 1 rfl<|nsqr<|pr 2 rfl<|qq (R.mulTo (sg * (N : Int)) rfl rfl (IntWalk.i64_in _ (Sp.sg_mul hsg om om))) rfl<|pr 3 rfl<|nst<|At.res2 rfl rfl rfl ?_
   rw [hC, Sp.count2_C e8 om e25 om e40 e41, hN]
   rw [if_pos (c := Sp.nx s p25 = 45) om]
   refine ⟨?_, hr.cast ?_, hG⟩
   all_goals (first | rfl | simp [Rd.cells])
  refine ksqr<|pr 2 rfl<|qq (R.mulTo (sg * (N : Int)) rfl rfl (IntWalk.i64_in _ (Sp.sg_mul hsg om om))) rfl<|pr 3 rfl<|nst<|At.res2 rfl rfl rfl ?_
  rw [hC, Sp.count2_C e8 om e25 om e40 e41, hN]
  rw [if_neg (c := Sp.nx s p25 = 45) om]
  refine ⟨?_, hr.cast ?_, hG⟩
  all_goals (first | rfl | simp [Rd.cells])
 subst h42
 have hr : RK g s p41 false u41 ps _ := hr
 refine pr 5 rfl<|fA fo38_2 rfl<|sT sc4 hr rfl fun w hr hs => ?_
 have hr : Blk _ g 38 [str s, .int .i64 ((p41 : Nat) : Int), .bool !is41, .bool u41, .bool ps] := hr
 have hG := hG.trans hs
 refine nsq<|qr<|pr 1 rfl<|qq (R.eqI rfl rfl) rfl<|ns<|cD rfl (fun h44 => ?_) fun h44 => ?_
 ·refine rR<|pr 1 rfl<|qq (R.neg rfl (IntWalk.i64_in _ om)) rfl<|pr 1 rfl<|nsqr<|pr 2 rfl<|qq (R.mulTo (sg * (N : Int)) rfl rfl (IntWalk.i64_in _ (Sp.sg_mul hsg om om))) rfl<|pr 3 rfl<|nst<|At.res2 rfl rfl rfl ?_
  rw [hC, Sp.count2_C e8 om e25 om e40 e41, hN]
  rw [if_pos (c := Sp.nx s p25 = 45) om]
  refine ⟨?_, hr.cast ?_, hG⟩
  all_goals (first | rfl | simp [Rd.cells])
 refine ksqr<|pr 2 rfl<|qq (R.mulTo (sg * (N : Int)) rfl rfl (IntWalk.i64_in _ (Sp.sg_mul hsg om om))) rfl<|pr 3 rfl<|nst<|At.res2 rfl rfl rfl ?_
 rw [hC, Sp.count2_C e8 om e25 om e40 e41, hN]
 rw [if_neg (c := Sp.nx s p25 = 45) om]
 refine ⟨?_, hr.cast ?_, hG⟩
 all_goals (first | rfl | simp [Rd.cells])
def SelN.cells (x : SelN) (size : Nat) : List Value :=
 [.int .i64 (x.kind : Int), .int .i64 (x.op : Int), str x.key, str x.val, .int .i64 x.a, .int .i64 x.b, .int .i64 (x.flag : Int), .int .i64 (size : Int)]
mutual
def ST.cnt : ST → Nat
 | .node _ l => 1 + ST.cntL l
def ST.cntL : List ST → Nat
 | [] => 0
 | t :: r => t.cnt + ST.cntL r
end
mutual
def ST.enc : ST → List Value
 | .node x l => x.cells (1 + ST.cntL l) ++ ST.encL l
def ST.encL : List ST → List Value
 | [] => []
 | t :: r => t.enc ++ ST.encL r
end
theorem SelN.cells_length (x : SelN) (z : Nat) : (x.cells z).length = 8 := rfl
mutual
theorem ST.enc_length : (t : ST) → t.enc.length = t.cnt * 8
 | .node x l => by
  rw [ST.enc, ST.cnt, List.length_append, SelN.cells_length, ST.encL_length l]; omega
theorem ST.encL_length : (l : List ST) → (ST.encL l).length = ST.cntL l * 8
 | [] => rfl
 | t :: r => by
  rw [ST.encL, ST.cntL, List.length_append, ST.enc_length t, ST.encL_length r]; omega
end
theorem ST.cntL_append (a b : List ST) : ST.cntL (a ++ b) = ST.cntL a + ST.cntL b := by
 induction a with
 | nil => simp [ST.cntL]
 | cons t r ih => rw [List.cons_append, ST.cntL, ST.cntL, ih]; omega
theorem ST.encL_append (a b : List ST) : ST.encL (a ++ b) = ST.encL a ++ ST.encL b := by
 induction a with
 | nil => simp [ST.encL]
 | cons t r ih => rw [List.cons_append, ST.encL, ST.encL, ih, List.append_assoc]
theorem ST.cnt_pos (t : ST) : 1 ≤ t.cnt := by
 cases t; rw [ST.cnt]; omega
theorem own_ne {w : World} {base : Nat} {e : TypeId} {size : Nat} {v : Value} {n : Nat} {xs : List Value} (h : w.ownsRow base e size v n xs) {g : Nat} (hg : g < base) : some g ≠ v.ownBlock := by
 intro he
 have := (h.lt g he.symm).1
 omega
theorem own_mono {w : World} {base base' : Nat} {e : TypeId} {size : Nat} {v : Value} {n : Nat} {xs : List Value} (h : w.ownsRow base e size v n xs) (hb : base' ≤ base) : w.ownsRow base' e size v n xs := by
 refine ⟨h.1, ?_⟩
 rcases h.2 with hn | ⟨g, cap, cur, hv, hbg, rest⟩
 ·exact .inl hn
 exact .inr ⟨g, cap, cur, hv, Nat.le_trans hb hbg, rest⟩
theorem own_grN {w w' : World} {base : Nat} {e : TypeId} {size : Nat} {v : Value} {n : Nat} {xs : List Value} (h : w.ownsRow base e size v n xs) (hg : Gr w w' none) : w'.ownsRow base e size v n xs :=
 h.kept hg (by cases hv : v.ownBlock <;> simp)
theorem own_gr {w w' : World} {base : Nat} {e : TypeId} {size : Nat} {v : Value} {n : Nat} {xs : List Value} (h : w.ownsRow base e size v n xs) {g : Nat} (hg : Gr w w' (some g)) (hb : g < base) : w'.ownsRow base e size v n xs :=
 h.kept hg (.inr (own_ne h hb).symm)
theorem own_kept {w w' : World} {base : Nat} {e : TypeId} {size : Nat} {v : Value} {n : Nat} {xs : List Value} (h : w.ownsRow base e size v n xs) {q : Option Nat} (hg : Gr w w' q) (hq : v.ownBlock = none ∨ v.ownBlock ≠ q) : w'.ownsRow base e size v n xs :=
 h.kept hg hq
theorem own_old {w : World} {base : Nat} {e : TypeId} {size : Nat} {v : Value} {n : Nat} {xs : List Value} (h : w.ownsRow base e size v n xs) {q : Nat} (hq : w.heap.size ≤ q) : v.ownBlock = none ∨ v.ownBlock ≠ some q := by
 cases hv : v.ownBlock with
 | none => exact .inl rfl
 | some k =>
  right
  have := (h.lt k hv).2
  intro e
  injection e with e
  omega
theorem Gr.own {a b c : World} {r : Option Nat} {e : TypeId} {size : Nat} {v : Value} {n : Nat} {xs : List Value} (h : Gr a b r) (k : Gr b c v.ownBlock) (ho : b.ownsRow a.heap.size e size v n xs) : Gr a c r := by
 cases hv : v.ownBlock with
 | none => rw [hv] at k; exact h.trans (k.no r)
 | some q => rw [hv] at k; exact h.fresh k (ho.lt q hv).1
abbrev Piece := Value × Nat × List Value
def sumN : List Piece → Nat
 | [] => 0
 | p :: r => p.2.1 + sumN r
def sumX : List Piece → List Value
 | [] => []
 | p :: r => p.2.2 ++ sumX r
theorem sumN_append (a b : List Piece) : sumN (a ++ b) = sumN a + sumN b := by
 induction a with
 | nil => simp [sumN]
 | cons p r ih => rw [List.cons_append, sumN, sumN, ih]; omega
theorem sumX_append (a b : List Piece) : sumX (a ++ b) = sumX a ++ sumX b := by
 induction a with
 | nil => simp [sumX]
 | cons p r ih => rw [List.cons_append, sumX, sumX, ih, List.append_assoc]
theorem sumN_succ (ps : List Piece) (i : Nat) (h : i < ps.length) : sumN (ps.take (i + 1)) = sumN (ps.take i) + ps[i].2.1 := by
 rw [List.take_succ_eq_append_getElem h, sumN_append]; simp [sumN]
theorem sumX_succ (ps : List Piece) (i : Nat) (h : i < ps.length) : sumX (ps.take (i + 1)) = sumX (ps.take i) ++ ps[i].2.2 := by
 rw [List.take_succ_eq_append_getElem h, sumX_append]; simp [sumX]
theorem sumN_take_le (ps : List Piece) (i : Nat) : sumN (ps.take i) ≤ sumN ps := by
 have := sumN_append (ps.take i) (ps.drop i)
 rw [List.take_append_drop] at this
 omega
theorem own_of_blk {w : World} {base b n : Nat} {cs : List Value} (h : Blk w b 53 cs) (hl : cs.length = n * 8) (hb : base ≤ b) (hn : n ≤ maxLen) : w.ownsRow base 53 8 (.slice (some ⟨b, 0, none⟩) n n) n cs :=
 ⟨hl, .inr ⟨b, n, cs.toArray, rfl, hb, h, Nat.le_refl _, hn, by simpa using hl, by rw [← hl]; simp⟩⟩
theorem own_slice {w : World} {base : Nat} {e : TypeId} {size : Nat} {v : Value} {n : Nat} {xs : List Value} (h : w.ownsRow base e size v n xs) (hn : 0 < n) : ∃ b cap, v = .slice (some ⟨b, 0, none⟩) n cap := by
 rcases h.2 with ⟨_, h0⟩ | ⟨g, cap, cur, hv, _⟩
 ·omega
 exact ⟨g, cap, hv⟩
section
variable {P : Program} {Q : Post} {ops : Array Oper} {rest : List Oper} {n : Nat} {l : Fr} {w : World} {v : Value} {dst : Option Nat} {d : Nat} {ty : TypeId} {pos : String} {af : Array Edge} {g : Option (Nat × Bool)} {x y : Operand} {t u : TypeId} {b k : Nat}
theorem W.appendRow {e : TypeId} {sz by' base m0 m : Nat} {xs ys : List Value} {pv : Value} (hE : elInfo P t = some (e, sz, by')) (hs : ev l x = some v) (hown : w.ownsRow base e sz v m0 xs) (hy : ev l y = some pv) (hP : w.ownsRow 0 e sz pv m ys) (h1 : ∀ u ∈ ys, u.oneCell' = true)
 (h63 : m0 + m ≤ maxLen) (hbytes : (m0 + m) * by' ≤ 140737488355328) (hbase : base ≤ w.heap.size) (hdn : Nat.blt d n = true)
 (h : ∀ v' w', w'.ownsRow base e sz v' (m0 + m) (xs ++ ys) → Gr w w' v.ownBlock → W P ops Q n rest ((d, v') :: l) w') : W P ops Q n (⟨some d, .call ⟨.builtin .append, #[x, y], #[t, t]⟩, ty, pos, af, none⟩ :: rest) l w := by
 have hP2 := hP
 rcases hP with ⟨hl, ⟨rfl, rfl⟩ | ⟨g, cap, cur, rfl, hb, hg, hc1, hc2, hc3, hc4⟩⟩
 ·have : ys = [] := by simpa using hl
  subst this
  exact W.appendNil hE hs hown hy hdn (h v w (by simpa using hown) (Gr.refl _ _))
 refine W.append hE hs hown hy hl ?_ h1 h63 hbytes hbase hdn h
 exact hP2.cells rfl
theorem R.storeC (hs : scalar P t = true) (hx : ev l x = some (.pointer (some ⟨b, k, none⟩))) (hy : ev l y = some v) (h1 : v.oneCell' = true) {v0 : Value} (hc : w.cell? ⟨b, k, none⟩ = some v0) (hf : w.frozen? ⟨b, k, none⟩ = false) : Runs P n l ⟨dst, .store t x y, ty, pos, af, g⟩ w .skip (w.setCell ⟨b, k, none⟩ v) := fun a ha => by
 have hcells : v.cells = #[v] := by cases v <;> first | rfl | (simp [Value.oneCell'] at h1)
 simp only [execOp, ha.ev hx, ha.ev hy]
 simp [Instr.storeAt, Instr.sureAddr, storeVar, sizeOf_scalar hs, hcells, storeCells, run_store P w _ v _ h1, hc, hf, Addr.add]
theorem W.storeOwn {e : TypeId} {size base m cap : Nat} {xs : List Value} (hs : scalar P t = true) (hx : ev l x = some (.pointer (some ⟨b, k, none⟩))) (hy : ev l y = some v) (h1 : v.oneCell' = true) (ho : w.ownsRow base e size (.slice (some ⟨b, 0, none⟩) m cap) m xs) (hk : k < m * size)
 (h : ∀ w', w'.ownsRow base e size (.slice (some ⟨b, 0, none⟩) m cap) m (xs.set k v) → Gr w w' (some b) → W P ops Q n rest l w') : W P ops Q n (⟨none, .store t x y, ty, pos, af, none⟩ :: rest) l w := by
 have hl : k < xs.length := by rw [ho.1]; exact hk
 have hc := ho.cellAt k hk
 rw [List.getElem?_eq_getElem hl] at hc
 obtain ⟨h2, h3⟩ := ho.stored k v
 exact W.skip (R.storeC hs hx hy h1 hc (ho.frozenAt k)) rfl rfl (h _ h2 h3)
end
theorem ag53 : aggSize PR 53 = some 8 := by kernel_rfl
theorem rowS (X : SelN) (z : Nat) : rowOf PR 22 1 [(0, .agg (X.cells z).toArray)] = some (53, X.cells z) := by kernel_rfl
theorem SelMade_calls (X : SelN) (z : Nat) (q : Option Addr) (cap : Nat) (ps : List Piece) (w0 : World) (hc : ∀ j p, ps[j]? = some p → ∃ kb, q = some ⟨kb, 0, none⟩ ∧ w0.cell? ⟨kb, j, none⟩ = some p.1) (hp : ∀ p ∈ ps, w0.ownsRow 0 53 8 p.1 p.2.1 p.2.2) (hone : ∀ p ∈ ps, ∀ u ∈ p.2.2, u.oneCell' = true) (hlen : ps.length ≤ 100000) (hs : 1 + sumN ps ≤ 100000) :
 CR PR 19 [.agg (X.cells z).toArray, .slice q ps.length cap] w0 fun v w' => w'.ownsRow w0.heap.size 53 8 v (1 + sumN ps) (X.cells (1 + sumN ps) ++ sumX ps) ∧ Gr w0 w' none := by
 have hG : Gr w0 w0 none := Gr.refl _ _
 refine CR.of (n := 27) [(0, .agg (X.cells z).toArray), (1, .slice q ps.length cap)] Tryz.func19 rfl Tryz.ntmps19 rfl ⟨rfl, rfl, trivial⟩<|qr<|W.box (vs := X.cells z) rfl rfl rfl fun w qb hqb hB hv => ?_
 have hG := hG.trans hv
 refine pr 1 rfl<|nsqr<|qq (R.loadAgg (k := 8) (vs := X.cells z) ag53 rfl hB (Nat.le_refl 8) rfl) rfl ?_
 have hsz := hG.size
 refine W.buildSlice (ps := [(0, .agg (X.cells z).toArray)]) (fun a ha => by simp [ha.ev (x := .tmp 7) rfl]) (rowS X z) rfl fun w b hbz hS hv => ?_
 have hG := hG.trans hv
 have hO : w.ownsRow w0.heap.size 53 8 (.slice (some ⟨b, 0, none⟩) 1 1) 1 (X.cells z) := own_of_blk hS rfl om dC
 refine pr 1 rfl<|nsq<|qr<|pr 1 rfl<|ns<|rO<|sB [(1, .slice q ps.length cap), (5, .slice (some ⟨b, 0, none⟩) 1 1), (6, .int .i64 ((0 : Nat) : Int))] rfl<|C.loop (fun m l w' => ∃ (i : Nat) (v5 : Value), l = [(1, .slice q ps.length cap), (5, v5), (6, .int .i64 (i : Int))] ∧ w'.ownsRow w0.heap.size 53 8 v5 (1 + sumN (ps.take i)) (X.cells z ++ sumX (ps.take i)) ∧ Gr w0 w' none ∧ i + m = ps.length) (ps.length) (⟨0, _, rfl, by simpa [sumN, sumX] using hO, hG, om⟩) ?_
 rintro m l w ⟨i, v5, rfl, hO, hG, hm⟩
 refine qqr<|pr 2 rfl<|qq (R.lenL rfl slq28) rfl<|qq (R.ltI rfl rfl) rfl<|ns<|cD rfl (fun h1 => ?_) fun h1 => ?_
 ·refine ksq<|rO ?_
  have hi : i < ps.length := by omega
  obtain ⟨kb, hq, hcell⟩ := hc i ps[i] (List.getElem?_eq_getElem hi)
  subst hq
  have hP := own_grN (hp ps[i] (List.getElem_mem hi)) hG
  have hcell := hG.cell hcell (by simp)
  have hsum := sumN_succ ps i hi
  have hle := sumN_take_le ps (i + 1)
  refine rR<|pr 3 rfl<|qq (R.idxB rfl rfl i rfl hi sl28) rfl<|qq (R.loadC sc22 rfl hcell) rfl<|W.appendRow el22 rfl hO rfl hP (hone _ (List.getElem_mem hi)) (by simp only [maxLen]; omega) om hG.size rfl fun v6 w hO6 hg6 => ?_
  have hG := hG.own hg6 hO
  refine pr 1 rfl<|nbs<|rR<|pr 1 rfl<|aK rfl rfl<|pr 1 rfl<|rN ?_
  have hO7 : w.ownsRow w0.heap.size 53 8 v6 (1 + sumN (ps.take (i + 1))) (X.cells z ++ sumX (ps.take (i + 1))) := by
   rw [sumN_succ ps i hi, sumX_succ ps i hi, ← Nat.add_assoc, ← List.append_assoc]; exact hO6
  obtain ⟨m, rfl⟩ := sU m
  exact cT [(1, .slice (some ⟨kb, 0, none⟩) ps.length cap), (5, v6), (6, .int .i64 ((i + 1 : Nat) : Int))] rfl ⟨m, om, i + 1, v6, rfl, hO7, hG, om⟩
 refine rE<|rX<|rX<|rY<|sq ?_
 have hi : i = ps.length := by omega
 subst hi
 rw [List.take_length] at hO
 obtain ⟨b5, cap5, rfl⟩ := own_slice hO om
 refine rR<|pr 2 rfl<|qq (R.lenL rfl slq22) rfl<|qq (R.idxA rfl rfl 0 rfl om sl22) rfl<|fA fo53_7 rfl<|W.storeOwn sc3 rfl rfl rfl hO om fun w hO8 hg8 => ?_
 have hG := hG.own hg8 hO
 exact nsqr<|pr 2 rfl<|nst<|rA rfl rfl ⟨hO8, hG⟩
theorem fail_calls (g : Nat) (s : List UInt8) (p0 : Nat) (b0 u0 ps : Bool) (w0 : World) (hr : RD g ⟨s, p0, b0, u0, ps⟩ w0) :
 CR PR 28 [pP g] w0 fun v w' => w'.ownsRow w0.heap.size 53 8 v 1 (Sp.failed.enc) ∧ RD g ⟨s, p0, true, u0, ps⟩ w' ∧ Gr w0 w' (some g) := by
 have hr : RK g s p0 b0 u0 ps _ := hr
 have hG : Gr w0 w0 (some g) := Gr.refl _ _
 refine CR.of (n := 8) [(0, pP g)] Tryz.func28 rfl Tryz.ntmps28 rfl ⟨rfl, trivial⟩<|qr<|pr 1 rfl<|nsqr<|pr 2 rfl<|fA fo38_2 rfl<|sT sc4 hr rfl fun w hr hs => ?_
 have hr : RK g s p0 true u0 ps _ := hr
 have hG := hG.trans hs
 refine nsqr<|qq (R.build (vs := (SelN.mk1 1).cells 1) (ps := [(0, .int .i64 1), (7, .int .i64 1)]) (fun a ha => by simp [ha.ev (x := .const (.int .i64 1)) rfl]) kR) rfl ?_
 have hsz := hG.size
 refine W.buildSlice (ps := [(0, .agg ((SelN.mk1 1).cells 1).toArray)]) (fun a ha => by simp [ha.ev (x := .tmp 6) rfl]) (rowS _ _) rfl fun w b hbz hS hv => ?_
 have hr := hr.grN hv
 have hG := hG.trans (hv.no _)
 have hO : w.ownsRow w0.heap.size 53 8 (.slice (some ⟨b, 0, none⟩) 1 1) 1 ((SelN.mk1 1).cells 1) := own_of_blk hS rfl om dC
 refine pr 1 rfl<|nst<|rA rfl rfl ⟨?_, hr, hG⟩
 rw [Sp.failed, ST.enc]; exact hO
def Sp.flagI : Option Nat → Int
 | some k => (k : Int)
 | none => -1
def Sp.sixNames : List (List UInt8) := [[101, 109, 112, 116, 121], [114, 111, 111, 116], [105, 110, 112, 117, 116], [108, 105, 110, 107], [101, 110, 97, 98, 108, 101, 100], [100, 105, 115, 97, 98, 108, 101, 100], [99, 104, 101, 99, 107, 101, 100]]
theorem evalC (a : Act) (v : Value) : a.eval (.const v) = v := rfl
theorem u106 : PR.underlying 106 = some (.slice 9) := by kernel_rfl
theorem rowOpen : rowOf PR 106 66 ((Sp.openNames.map str).zipIdx.map fun p => (p.2, p.1)) = some (9, Sp.openNames.map str) := by kernel_rfl
theorem rowSix : rowOf PR 106 7 ((Sp.sixNames.map str).zipIdx.map fun p => (p.2, p.1)) = some (9, Sp.sixNames.map str) := by kernel_rfl
def Sp.sixKinds : List Value := [.int .i64 8, .int .i64 9, .int .i64 10, .int .i64 11, .int .i64 12, .int .i64 13, .int .i64 14]
theorem rowKinds : rowOf PR 54 7 (Sp.sixKinds.zipIdx.map fun p => (p.2, p.1)) = some (3, Sp.sixKinds) := by kernel_rfl
theorem Sp.contains_yes {l : List (List UInt8)} {i : Nat} {nm : List UInt8} (h : l[i]? = some nm) : l.contains nm = true := by
 rw [List.contains_iff_mem]; exact List.mem_of_getElem? h
theorem Sp.contains_no {l : List (List UInt8)} {nm : List UInt8} (h : ∀ j, j < l.length → l[j]? ≠ some nm) : l.contains nm = false := by
 rw [Bool.eq_false_iff]
 intro hc
 rw [List.contains_iff_mem] at hc
 obtain ⟨j, hj⟩ := List.getElem?_of_mem hc
 refine h j ?_ hj
 exact (List.getElem?_eq_some_iff.1 hj).1
def Sp.plainV (nm : List UInt8) : Value := match Sp.plain nm with
 | some x => .tuple #[.agg (x.cells 0).toArray, .bool true]
 | none => .tuple #[.agg ((SelN.mk1 0).cells 0).toArray, .bool false]
theorem z53 : zeroCellsOf PR 53 = some ((SelN.mk1 0).cells 0) := by kernel_rfl
theorem SelN.cells_one (x : SelN) (z : Nat) : ∀ v ∈ x.cells z, v.oneCell' = true := by
 intro v hv
 simp only [SelN.cells, List.mem_cons, List.not_mem_nil, or_false] at hv
 rcases hv with rfl | rfl | rfl | rfl | rfl | rfl | rfl | rfl <;> rfl
theorem loadVar_agg {P : Program} {t b k : Nat} {w : World} {cs : List Value} {e : TypeId} (hz : aggSize P t = some k) (hb : Blk w b e cs) (hk : cs.length = k) : (loadVar t ⟨b, 0, none⟩).run P w = .ok (.agg cs.toArray) w := by
 obtain ⟨ha1, ha2⟩ := aggSize_agg hz w
 have := loadCells_blk (P := P) hb 0 k 0 #[] (by simp [hk])
 simp [loadVar, ha1, ha2, loadCells, this, hk]
 rw [← hk, List.take_length]
theorem At.resCell2 {P : Program} {fn : Func} {R : Value → World → Prop} {n : Nat} {l : Fr} {w : World} {t ty u : Nat} {a0 : Addr} {v u' : Value} (hres : fn.results = #[.cell t ty, .tmp u]) (hv : Eng.look l t = some (.pointer (some a0))) (hload : (loadVar ty a0).run P w = .ok v w) (hu : Eng.look l u = some u') (h : R (.tuple #[v, u']) w) : At (bodyPost P fn fun e w' => ∃ v, e = .returned v ∧ R v w') .ret n l w := by
 intro a ha
 have h1 := ha.ev (x := .tmp t) hv
 have h3 := ha.ev (x := .tmp u) hu
 simp only [Act.eval] at h1 h3
 refine bodyPost_ret (v := .tuple #[v, u']) ?_ ha.2.1 ⟨_, rfl, h⟩
 have h2 : a.tmps[t]?.getD undef = .pointer (some a0) := by simpa using h1
 have h4 : a.tmps[u]?.getD undef = u' := by simpa using h3
 simp [results, hres, h2, h4, asAddr, hload]
theorem Sp.six_lt {i : Nat} (h : i < 7) : i = 0 ∨ i = 1 ∨ i = 2 ∨ i = 3 ∨ i = 4 ∨ i = 5 ∨ i = 6 := by omega
theorem Sp.plain_six {i : Nat} {nm : List UInt8} (hi : i < 7) (h : Sp.sixNames[i]? = some nm) : Sp.plainV nm = .tuple #[.agg ((SelN.mk1 (8 + i)).cells 0).toArray, .bool true] := by
 rcases Sp.six_lt hi with rfl | rfl | rfl | rfl | rfl | rfl | rfl <;> (injection h with h; subst h; kernel_rfl)
theorem Sp.kinds_at {i : Nat} (hi : i < 7) : Sp.sixKinds[i]? = some (.int .i64 ((8 + i : Nat) : Int)) := by
 rcases Sp.six_lt hi with rfl | rfl | rfl | rfl | rfl | rfl | rfl <;> rfl
theorem nthFlag_calls (nm : List UInt8) (w0 : World) :
 CR PR 59 [str nm] w0 fun v w' => v = .int .i64 (Sp.flagI (Sp.nthFlag nm)) ∧ Gr w0 w' none := by
 have hG : Gr w0 w0 none := Gr.refl _ _
 refine CR.of (n := 12) [(0, str nm)] Tryz.func59 rfl Tryz.ntmps59 rfl ⟨rfl, trivial⟩<|qr<|pr 1 rfl<|nsq<|qr<|pr 1 rfl<|ns<|rO<|qr<|qq (R.eqS rfl rfl) rfl<|pr 1 rfl<|ns<|cD rfl (fun h1 => ?_) fun h1 => ?_
 ·refine qr<|pr 1 rfl<|nst<|rC<|rH<|rA rfl rfl ⟨?_, hG⟩
  rw [Sp.nthFlag, if_pos h1]
  rfl
 refine qr<|qq (R.eqS rfl rfl) rfl<|pr 1 rfl<|ns<|cD rfl (fun h2 => ?_) fun h2 => ?_
 ·refine qr<|pr 1 rfl<|nst<|rC<|rH<|rA rfl rfl ⟨?_, hG⟩
  rw [Sp.nthFlag, if_neg h1, if_pos h2]
  rfl
 refine qr<|qq (R.eqS rfl rfl) rfl<|pr 1 rfl<|ns<|cD rfl (fun h3 => ?_) fun h3 => ?_
 ·refine qr<|pr 1 rfl<|nst<|rC<|rH<|rA rfl rfl ⟨?_, hG⟩
  rw [Sp.nthFlag, if_neg h1, if_neg h2, if_pos h3]
  rfl
 refine qr<|qq (R.eqS rfl rfl) rfl<|pr 1 rfl<|ns<|cD rfl (fun h4 => ?_) fun h4 => ?_
 ·refine qr<|pr 1 rfl<|nst<|rC<|rH<|rA rfl rfl ⟨?_, hG⟩
  rw [Sp.nthFlag, if_neg h1, if_neg h2, if_neg h3, if_pos h4]
  rfl
 refine rK<|bS<|qr<|pr 1 rfl<|nst<|rA rfl rfl ⟨?_, hG⟩
 rw [Sp.nthFlag, if_neg h1, if_neg h2, if_neg h3, if_neg h4]
 rfl
theorem open_calls (nm : List UInt8) (w0 : World) :
 CR PR 58 [str nm] w0 fun v w' => v = .bool (Sp.isOpen nm) ∧ Gr w0 w' none := by
 have hG : Gr w0 w0 none := Gr.refl _ _
 refine CR.of (n := 18) [(0, str nm)] Tryz.func58 rfl Tryz.ntmps58 rfl ⟨rfl, trivial⟩<|qr<|pr 1 rfl<|nsqr<|W.buildSlice (ps := (Sp.openNames.map str).zipIdx.map fun p => (p.2, p.1)) (fun a ha => by kernel_rfl) rowOpen rfl fun w b hbz hB hv => ?_
 have hG := hG.trans hv
 refine pr 1 rfl<|nsq<|qr<|pr 1 rfl<|ns<|rO<|sB [(0, str nm), (3, .slice (some ⟨b, 0, none⟩) 66 66), (4, .int .i64 ((0 : Nat) : Int))] rfl<|C.loop (fun m l w' => ∃ i : Nat, l = [(0, str nm), (3, .slice (some ⟨b, 0, none⟩) 66 66), (4, .int .i64 (i : Int))] ∧ Blk w' b 9 (Sp.openNames.map str) ∧ Gr w0 w' none ∧ i + m = 66 ∧ ∀ j, j < i → Sp.openNames[j]? ≠ some nm) (66) (⟨0, rfl, hB, hG, om, fun j hj => absurd hj om⟩) ?_
 rintro m l w ⟨i, rfl, hB, hG, hm, hN⟩
 refine qqr<|pr 2 rfl<|qq (R.lenL rfl slq106) rfl<|qq (R.ltI rfl rfl) rfl<|ns<|cD rfl (fun h1 => ?_) fun h1 => ?_
 ·refine ksq<|rO<|rQ ?_
  have hi : i < Sp.openNames.length := (by omega : i < 66)
  have hcell : (Sp.openNames.map str)[i]? = some (str Sp.openNames[i]) := by rw [List.getElem?_map, List.getElem?_eq_getElem hi]; rfl
  refine rR<|pr 2 rfl<|qq (R.idxB rfl rfl i rfl om sl106) rfl<|qq (R.load sc9 rfl hB hcell) rfl<|pr 1 rfl<|qq (R.eqS rfl rfl) rfl<|ns<|cD rfl (fun h2 => ?_) fun h2 => ?_
  ·refine qr<|pr 1 rfl<|nst<|rC<|rH<|rH<|rC<|rH<|rA rfl rfl ⟨?_, hG⟩
   have hc : Sp.isOpen nm = true := Sp.contains_yes (i := i) (by rw [List.getElem?_eq_getElem hi, h2])
   rw [hc]
  refine rK<|bS<|rR<|pr 1 rfl<|aK rfl rfl<|pr 1 rfl<|rN ?_
  obtain ⟨m, rfl⟩ := sU m
  have hN2 : ∀ j, j < i + 1 → Sp.openNames[j]? ≠ some nm := by
   intro j hj
   rcases Nat.lt_or_ge j i with h | h
   ·exact hN j h
   have : j = i := by omega
   subst this
   rw [List.getElem?_eq_getElem hi]; intro e; injection e with e; exact h2 e
  exact cT [(0, str nm), (3, .slice (some ⟨b, 0, none⟩) 66 66), (4, .int .i64 ((i + 1 : Nat) : Int))] rfl ⟨m, om, i + 1, rfl, hB, hG, om, hN2⟩
 refine rE<|rX<|rX<|rY<|sqr<|pr 1 rfl<|nst<|rA rfl rfl ⟨?_, hG⟩
 have hc : Sp.isOpen nm = false := Sp.contains_no fun j hj => hN j (by have : Sp.openNames.length = 66 := rfl; omega)
 rw [hc]
theorem plain_calls (nm : List UInt8) (w0 : World) :
 CR PR 57 [str nm] w0 fun v w' => v = Sp.plainV nm ∧ Gr w0 w' none := by
 have hG : Gr w0 w0 none := Gr.refl _ _
 refine CR.of (n := 46) [(0, str nm)] Tryz.func57 rfl Tryz.ntmps57 rfl ⟨rfl, trivial⟩<|qr<|W.alloc z53 rfl fun w b hbz hB hv => ?_
 have hG := hG.trans hv
 refine pr 1 rfl<|nsq<|qr<|pr 1 rfl<|ns<|rO<|qr<|qq (R.eqS rfl rfl) rfl<|pr 1 rfl<|ns<|cD rfl (fun h1 => ?_) fun h1 => ?_
 ·refine qr<|qq (R.build (vs := [.int .i64 6, .int .i64 0, str [], str [], .int .i64 0, .int .i64 1, .int .i64 0, .int .i64 0]) (ps := [(0, .int .i64 6), (5, .int .i64 1)]) (fun a ha => by kernel_rfl) kR) rfl<|W.storeAll ag53 rfl rfl hB rfl rfl (by intro v hv; simp only [List.mem_cons, List.not_mem_nil, or_false] at hv; rcases hv with rfl | rfl | rfl | rfl | rfl | rfl | rfl | rfl <;> rfl) fun w hB hv => ?_
  have hG := hG.fresh hv om
  refine pr 1 rfl<|nst<|rC<|rH<|At.resCell2 rfl rfl (loadVar_agg ag53 hB rfl) rfl ⟨?_, hG⟩
  rw [Sp.plainV, Sp.plain, if_pos h1]
  rfl
 refine qr<|qq (R.eqS rfl rfl) rfl<|pr 1 rfl<|ns<|cD rfl (fun h2 => ?_) fun h2 => ?_
 ·refine qr<|qq (R.build (vs := [.int .i64 6, .int .i64 0, str [], str [], .int .i64 0, .int .i64 1, .int .i64 1, .int .i64 0]) (ps := [(0, .int .i64 6), (5, .int .i64 1), (6, .int .i64 1)]) (fun a ha => by kernel_rfl) kR) rfl<|W.storeAll ag53 rfl rfl hB rfl rfl (by intro v hv; simp only [List.mem_cons, List.not_mem_nil, or_false] at hv; rcases hv with rfl | rfl | rfl | rfl | rfl | rfl | rfl | rfl <;> rfl) fun w hB hv => ?_
  have hG := hG.fresh hv om
  refine pr 1 rfl<|nst<|rC<|rH<|At.resCell2 rfl rfl (loadVar_agg ag53 hB rfl) rfl ⟨?_, hG⟩
  rw [Sp.plainV, Sp.plain, if_neg h1, if_pos h2]
  rfl
 refine qr<|qq (R.eqS rfl rfl) rfl<|pr 1 rfl<|ns<|cD rfl (fun h3 => ?_) fun h3 => ?_
 ·refine qr<|qq (R.build (vs := [.int .i64 6, .int .i64 0, str [], str [], .int .i64 0, .int .i64 1, .int .i64 2, .int .i64 0]) (ps := [(0, .int .i64 6), (5, .int .i64 1), (6, .int .i64 2)]) (fun a ha => by kernel_rfl) kR) rfl<|W.storeAll ag53 rfl rfl hB rfl rfl (by intro v hv; simp only [List.mem_cons, List.not_mem_nil, or_false] at hv; rcases hv with rfl | rfl | rfl | rfl | rfl | rfl | rfl | rfl <;> rfl) fun w hB hv => ?_
  have hG := hG.fresh hv om
  refine pr 1 rfl<|nst<|rC<|rH<|At.resCell2 rfl rfl (loadVar_agg ag53 hB rfl) rfl ⟨?_, hG⟩
  rw [Sp.plainV, Sp.plain, if_neg h1, if_neg h2, if_pos h3]
  rfl
 refine qr<|qq (R.eqS rfl rfl) rfl<|pr 1 rfl<|ns<|cD rfl (fun h4 => ?_) fun h4 => ?_
 ·refine qr<|qq (R.build (vs := [.int .i64 6, .int .i64 0, str [], str [], .int .i64 0, .int .i64 1, .int .i64 3, .int .i64 0]) (ps := [(0, .int .i64 6), (5, .int .i64 1), (6, .int .i64 3)]) (fun a ha => by kernel_rfl) kR) rfl<|W.storeAll ag53 rfl rfl hB rfl rfl (by intro v hv; simp only [List.mem_cons, List.not_mem_nil, or_false] at hv; rcases hv with rfl | rfl | rfl | rfl | rfl | rfl | rfl | rfl <;> rfl) fun w hB hv => ?_
  have hG := hG.fresh hv om
  refine pr 1 rfl<|nst<|rC<|rH<|At.resCell2 rfl rfl (loadVar_agg ag53 hB rfl) rfl ⟨?_, hG⟩
  rw [Sp.plainV, Sp.plain, if_neg h1, if_neg h2, if_neg h3, if_pos h4]
  rfl
 refine qr<|qq (R.eqS rfl rfl) rfl<|pr 1 rfl<|ns<|cD rfl (fun h5 => ?_) fun h5 => ?_
 ·refine qr<|qq (R.build (vs := [.int .i64 7, .int .i64 0, str [], str [], .int .i64 0, .int .i64 0, .int .i64 0, .int .i64 0]) (ps := [(0, .int .i64 7)]) (fun a ha => by kernel_rfl) kR) rfl<|W.storeAll ag53 rfl rfl hB rfl rfl (by intro v hv; simp only [List.mem_cons, List.not_mem_nil, or_false] at hv; rcases hv with rfl | rfl | rfl | rfl | rfl | rfl | rfl | rfl <;> rfl) fun w hB hv => ?_
  have hG := hG.fresh hv om
  refine pr 1 rfl<|nst<|rC<|rH<|At.resCell2 rfl rfl (loadVar_agg ag53 hB rfl) rfl ⟨?_, hG⟩
  rw [Sp.plainV, Sp.plain, if_neg h1, if_neg h2, if_neg h3, if_neg h4, if_pos h5]
  rfl
 refine qr<|qq (R.eqS rfl rfl) rfl<|pr 1 rfl<|ns<|cD rfl (fun h6 => ?_) fun h6 => ?_
 ·refine qr<|qq (R.build (vs := [.int .i64 7, .int .i64 0, str [], str [], .int .i64 0, .int .i64 0, .int .i64 2, .int .i64 0]) (ps := [(0, .int .i64 7), (6, .int .i64 2)]) (fun a ha => by kernel_rfl) kR) rfl<|W.storeAll ag53 rfl rfl hB rfl rfl (by intro v hv; simp only [List.mem_cons, List.not_mem_nil, or_false] at hv; rcases hv with rfl | rfl | rfl | rfl | rfl | rfl | rfl | rfl <;> rfl) fun w hB hv => ?_
  have hG := hG.fresh hv om
  refine pr 1 rfl<|nst<|rC<|rH<|At.resCell2 rfl rfl (loadVar_agg ag53 hB rfl) rfl ⟨?_, hG⟩
  rw [Sp.plainV, Sp.plain, if_neg h1, if_neg h2, if_neg h3, if_neg h4, if_neg h5, if_pos h6]
  rfl
 refine rK<|bS<|qr<|W.buildSlice (ps := (Sp.sixNames.map str).zipIdx.map fun p => (p.2, p.1)) (fun a ha => by kernel_rfl) rowSix rfl fun w bl hblz hL hv => ?_
 have hG := hG.trans hv
 have hB := hB.grN hv
 refine pr 1 rfl<|nsqr<|W.buildSlice (ps := Sp.sixKinds.zipIdx.map fun p => (p.2, p.1)) (fun a ha => by kernel_rfl) rowKinds rfl fun w bk hbkz hK hv => ?_
 have hG := hG.trans hv
 have hB := hB.grN hv
 have hL := hL.grN hv
 refine pr 1 rfl<|nsq<|qr<|pr 1 rfl<|ns<|rO<|sB [(0, str nm), (2, pP b), (4, .slice (some ⟨bl, 0, none⟩) 7 7), (5, .slice (some ⟨bk, 0, none⟩) 7 7), (6, .int .i64 ((0 : Nat) : Int))] rfl<|C.loop (fun m l w' => ∃ i : Nat, l = [(0, str nm), (2, pP b), (4, .slice (some ⟨bl, 0, none⟩) 7 7), (5, .slice (some ⟨bk, 0, none⟩) 7 7), (6, .int .i64 (i : Int))] ∧ Blk w' b 53 ((SelN.mk1 0).cells 0) ∧ Blk w' bl 9 (Sp.sixNames.map str) ∧ Blk w' bk 3 Sp.sixKinds ∧ Gr w0 w' none ∧ i + m = 7 ∧ ∀ j, j < i → Sp.sixNames[j]? ≠ some nm) (7) (⟨0, rfl, hB, hL, hK, hG, om, fun j hj => absurd hj om⟩) ?_
 rintro m l w ⟨i, rfl, hB, hL, hK, hG, hm, hN⟩
 refine qqr<|pr 2 rfl<|qq (R.lenL rfl slq106) rfl<|qq (R.ltI rfl rfl) rfl<|ns<|cD rfl (fun h7 => ?_) fun h7 => ?_
 ·refine ksq<|rO<|rQ ?_
  have hi : i < 7 := by omega
  have hi7 : i < Sp.sixNames.length := hi
  have hcell : (Sp.sixNames.map str)[i]? = some (str Sp.sixNames[i]) := by rw [List.getElem?_map, List.getElem?_eq_getElem hi7]; rfl
  refine rR<|pr 2 rfl<|qq (R.idxB rfl rfl i rfl om sl106) rfl<|qq (R.load sc9 rfl hL hcell) rfl<|pr 1 rfl<|qq (R.eqS rfl rfl) rfl<|ns<|cD rfl (fun h8 => ?_) fun h8 => ?_
  ·refine qr<|pr 2 rfl<|qq (R.idxB rfl rfl i rfl om sl54) rfl<|qq (R.load sc3 rfl hK (Sp.kinds_at hi)) rfl<|qq (R.build (vs := (SelN.mk1 (8 + i)).cells 0) (ps := [(0, .int .i64 ((8 + i : Nat) : Int))]) (fun a ha => by simp [ha.ev (x := .tmp 43) rfl]) kR) rfl<|W.storeAll ag53 rfl rfl hB rfl rfl (SelN.cells_one _ _) fun w hB hv => ?_
   have hG := hG.fresh hv om
   refine pr 1 rfl<|nst<|rC<|rH<|rH<|rC<|rH<|At.resCell2 rfl rfl (loadVar_agg ag53 hB rfl) rfl ⟨?_, hG⟩
   rw [Sp.plain_six hi (by rw [List.getElem?_eq_getElem hi7, h8])]
  refine rK<|bS<|rR<|pr 1 rfl<|aK rfl rfl<|pr 1 rfl<|rN ?_
  obtain ⟨m, rfl⟩ := sU m
  have hN2 : ∀ j, j < i + 1 → Sp.sixNames[j]? ≠ some nm := by
   intro j hj
   rcases Nat.lt_or_ge j i with h | h
   ·exact hN j h
   have : j = i := by omega
   subst this
   rw [List.getElem?_eq_getElem hi7]; intro e; injection e with e; exact h8 e
  exact cT [(0, str nm), (2, pP b), (4, .slice (some ⟨bl, 0, none⟩) 7 7), (5, .slice (some ⟨bk, 0, none⟩) 7 7), (6, .int .i64 ((i + 1 : Nat) : Int))] rfl ⟨m, om, i + 1, rfl, hB, hL, hK, hG, om, hN2⟩
 refine rE<|rX<|rX<|rY<|sqr<|qq (R.build (vs := [.int .i64 0, .int .i64 0, str [], str [], .int .i64 0, .int .i64 0, .int .i64 0, .int .i64 0]) (ps := []) (fun a ha => by kernel_rfl) kR) rfl<|W.storeAll ag53 rfl rfl hB rfl rfl (by intro v hv; simp only [List.mem_cons, List.not_mem_nil, or_false] at hv; rcases hv with rfl | rfl | rfl | rfl | rfl | rfl | rfl | rfl <;> rfl) fun w hB hv => ?_
 have hG := hG.fresh hv om
 refine pr 1 rfl<|nst<|At.resCell2 rfl rfl (loadVar_agg ag53 hB rfl) rfl ⟨?_, hG⟩
 rw [Sp.plainV, Sp.plain, if_neg h1, if_neg h2, if_neg h3, if_neg h4, if_neg h5, if_neg h6, if_neg (fun e => hN 0 om (by rw [e]; rfl)), if_neg (fun e => hN 1 om (by rw [e]; rfl)), if_neg (fun e => hN 2 om (by rw [e]; rfl)), if_neg (fun e => hN 3 om (by rw [e]; rfl)), if_neg (fun e => hN 4 om (by rw [e]; rfl)), if_neg (fun e => hN 5 om (by rw [e]; rfl)), if_neg (fun e => hN 6 om (by rw [e]; rfl))]
 rfl
end Go.Proofs.YtogfnbkccfkpoaaGreatDoor
namespace Go.Proofs.YtogfnbkccfkpoaaGreatDoor
open Go Go.RowKit
namespace Sp
theorem cnt_leaf (x : SelN) : (ST.node x []).cnt = 1 := rfl
theorem cnt_failed : failed.cnt = 1 := rfl
theorem fail_le {r : Rd} (h : Ok r) : Le r (fail r).2 ∧ (fail r).1.cnt = 1 := ⟨le_bad h, rfl⟩
def Step (c : Nat) (r : Rd) (f : ST × Rd) : Prop := Le r f.2 ∧ f.1.cnt ≤ c + 4 * (f.2.pos - r.pos)
theorem Step.after {c d : Nat} {r r' : Rd} {f : ST × Rd} (h : Le r r') (k : Step c r' f) (hc : c ≤ d) : Step d r f := by
 refine ⟨h.trans k.1, ?_⟩
 have h1 := h.pos; have h2 := k.1.pos; have h3 := k.2
 omega
theorem Step.fail {c : Nat} {r : Rd} (h : Ok r) (hc : 1 ≤ c) : Step c r (Sp.fail r) := ⟨(fail_le h).1, by rw [(fail_le h).2]; omega⟩
theorem Step.leaf {c : Nat} {r : Rd} (h : Ok r) (x : SelN) (hc : 1 ≤ c) : Step c r (ST.node x [], r) := ⟨Le.refl h, by rw [cnt_leaf]; omega⟩
theorem Step.more {c : Nat} {r r3 : Rd} {f : ST × Rd} (h : Le r r3) (k : Step (c + 4 * (r3.pos - r.pos)) r3 f) : Step c r f := by
 refine ⟨h.trans k.1, ?_⟩
 have h1 := h.pos; have h2 := k.1.pos; have h3 := k.2
 omega
theorem signGo_le (r : Rd) (h : Ok r) : ∀ (k i : Nat), Le r (signGo r k i).2
 | 0, i => Le.refl h
 | k + 1, i => by
  unfold signGo
  split
  ·exact taken_le r _ h
  exact signGo_le r h k (i + 1)
theorem Le.orU {a b : Rd} (h : Le a b) (u : Bool) : Le a (b.orUns u) := h.trans (le_orU h.ok u)
theorem Le.orB {a b : Rd} (h : Le a b) (u : Bool) : Le a (b.orBad u) := h.trans (le_orB h.ok u)
theorem Le.unsure {a b : Rd} (h : Le a b) : Le a b.unsure := h.trans (le_uns h.ok)
theorem attrib_le (r : Rd) (h : Ok r) : Step 1 r (attrib r) := by
 have a1 := spaces_le r h
 unfold attrib
 dsimp only
 generalize spaces r = x1 at *
 obtain ⟨v1, r1⟩ := x1
 dsimp only at *
 have a2 := a1.trans (name_le r1 a1.ok).1
 generalize name r1 = x2 at *
 obtain ⟨k, r2⟩ := x2
 dsimp only at *
 have a3 := a2.trans (spaces_le r2 a2.ok)
 generalize spaces r2 = x3 at *
 obtain ⟨v3, r3⟩ := x3
 dsimp only at *
 split
 ·exact Step.after a3 (Step.fail a3.ok (Nat.le_refl 1)) (Nat.le_refl 1)
 have a4 := a3.trans (taken_le r3 [93] a3.ok)
 generalize taken r3 [93] = x4 at *
 obtain ⟨e, r4⟩ := x4
 dsimp only at *
 split
 ·exact Step.after a4 (Step.leaf a4.ok _ (Nat.le_refl 1)) (Nat.le_refl 1)
 have a5 := a4.trans (signGo_le r4 a4.ok 7 2)
 generalize signGo r4 7 2 = x5 at *
 obtain ⟨op, r5⟩ := x5
 dsimp only at *
 split
 ·have a6 := (a5.orU (next r5 == 124)).orU (next r5 == 35)
  exact Step.after a6 (Step.fail a6.ok (Nat.le_refl 1)) (Nat.le_refl 1)
 have a6 := a5.trans (spaces_le r5 a5.ok)
 generalize spaces r5 = x6 at *
 obtain ⟨v6, r6⟩ := x6
 dsimp only at *
 have a7 := a6.trans (value_le r6 a6.ok).1
 generalize value r6 = x7 at *
 obtain ⟨vv, r7⟩ := x7
 dsimp only at *
 have a8 := a7.trans (spaces_le r7 a7.ok)
 generalize spaces r7 = x8 at *
 obtain ⟨v8, r8⟩ := x8
 dsimp only at *
 have a9 : Le r (if r8.bad = false ∧ (next r8 = 105 ∨ next r8 = 73) then ((1 : Nat), (spaces (r8.adv 1)).2) else (0, if next r8 = 115 ∨ next r8 = 83 then r8.unsure else r8)).2 := by
  split
  ·rename_i hc
   have hp := next_pos (r := r8) (by omega)
   have b1 := a8.trans (le_step (r := r8) (by omega))
   exact b1.trans (spaces_le _ b1.ok)
  dsimp only
  split
  ·exact a8.unsure
  exact a8
 generalize (if r8.bad = false ∧ (next r8 = 105 ∨ next r8 = 73) then ((1 : Nat), (spaces (r8.adv 1)).2) else (0, if next r8 = 115 ∨ next r8 = 83 then r8.unsure else r8)) = x9 at *
 obtain ⟨fl, r9⟩ := x9
 dsimp only at *
 have a10 := a9.trans (taken_le r9 [93] a9.ok)
 generalize taken r9 [93] = x10 at *
 obtain ⟨e10, r10⟩ := x10
 dsimp only at *
 split
 ·exact Step.after a10 (Step.leaf a10.ok _ (Nat.le_refl 1)) (Nat.le_refl 1)
 exact Step.after a10 (Step.fail a10.ok (Nat.le_refl 1)) (Nat.le_refl 1)
theorem count2x_le {r : Rd} (h : Ok r) : Le r (digits r).2.2 := (digits_le r h).1
theorem count_le (r : Rd) (h : Ok r) : Le r (count r).2.2 := by
 have a1 := word_le r [111, 100, 100] h
 unfold count
 dsimp only
 generalize word r [111, 100, 100] = x1 at *
 obtain ⟨v1, r1⟩ := x1
 dsimp only at *
 split
 ·exact a1
 have a2 := a1.trans (word_le r1 [101, 118, 101, 110] a1.ok)
 generalize word r1 [101, 118, 101, 110] = x2 at *
 obtain ⟨v2, r2⟩ := x2
 dsimp only at *
 split
 ·exact a2
 have a3 := a2.trans (taken_le r2 [45] a2.ok)
 generalize taken r2 [45] = x3 at *
 obtain ⟨m, r3⟩ := x3
 dsimp only at *
 have a4 : Le r (if m = true then (false, r3) else taken r3 [43]).2 := by
  split
  ·exact a3
  exact a3.trans (taken_le r3 [43] a3.ok)
 generalize (if m = true then (false, r3) else taken r3 [43]) = x4 at *
 obtain ⟨v4, r4⟩ := x4
 dsimp only at *
 have a5 := a4.trans (count2x_le a4.ok)
 generalize digits r4 = x5 at *
 obtain ⟨n, is, r5⟩ := x5
 dsimp only at *
 split
 ·exact ((a5.orB _).orU _).orU _
 rename_i hc
 have hp := next_pos (r := r5) (by omega)
 have a6 := a5.trans (le_step (r := r5) (by omega))
 have a7 := a6.trans (spaces_le _ a6.ok)
 generalize spaces (r5.adv 1) = x7 at *
 obtain ⟨v7, r7⟩ := x7
 dsimp only at *
 split
 ·exact a7.orU _
 rename_i hc2
 have hp2 := next_pos (r := r7) (by omega)
 have a8 := a7.trans (le_step (r := r7) (by omega))
 have a9 := a8.trans (spaces_le _ a8.ok)
 generalize spaces (r7.adv 1) = x9 at *
 obtain ⟨v9, r9⟩ := x9
 dsimp only at *
 have a10 := a9.trans (count2x_le a9.ok)
 generalize digits r9 = x10 at *
 obtain ⟨k, was, r10⟩ := x10
 exact a10.orB _
section
variable (grp : Rd → ST × Rd) (hgrp : ∀ r, Ok r → Step 3 r (grp r))
theorem closed_le {c : Nat} (x : SelN) (kid : List ST) (r r0 : Rd) (h : Le r0 r) (hc : 1 + ST.cntL kid ≤ c + 4 * (r.pos - r0.pos)) (hc1 : 1 ≤ c) : Step c r0 (closed x kid r) := by
 unfold closed
 split
 ·exact Step.after h (Step.fail h.ok hc1) (Nat.le_refl c)
 have a1 := h.trans (taken_le r [41] h.ok)
 have a2 := (taken_le r [41] h.ok).pos
 generalize taken r [41] = x1 at *
 obtain ⟨e, r1⟩ := x1
 dsimp only at *
 split
 ·refine ⟨a1, ?_⟩
  have := h.pos
  rw [ST.cnt]
  dsimp only
  omega
 exact Step.after a1 (Step.fail a1.ok hc1) (Nat.le_refl c)
include hgrp in
theorem argument_le (kind : Nat) (flag : Option Nat) (r : Rd) (h : Ok r) : Step 4 r (argument grp kind flag r) := by
 unfold argument
 cases flag with
 | some fl =>
  dsimp only
  have a1 := spaces_le r h
  generalize spaces r = x1 at *
  obtain ⟨v1, r1⟩ := x1
  dsimp only at *
  have a2 := a1.trans (count_le r1 a1.ok)
  generalize count r1 = x2 at *
  obtain ⟨a, b, r2⟩ := x2
  dsimp only at *
  have a3 := a2.trans (spaces_le r2 a2.ok)
  generalize spaces r2 = x3 at *
  obtain ⟨v3, r3⟩ := x3
  exact closed_le _ _ _ _ a3 (by simp [ST.cntL]; omega) (by omega)
 | none =>
  dsimp only
  split
  ·have a1 := spaces_le r h
   generalize spaces r = x1 at *
   obtain ⟨v1, r1⟩ := x1
   dsimp only at *
   have a2 : Le r (if next r1 = 62 ∨ next r1 = 43 ∨ next r1 = 126 then r1.unsure else r1) := by
    split
    ·exact a1.unsure
    exact a1
   generalize (if next r1 = 62 ∨ next r1 = 43 ∨ next r1 = 126 then r1.unsure else r1) = r2 at *
   have a3 := hgrp r2 a2.ok
   generalize grp r2 = x3 at *
   obtain ⟨kid, r3⟩ := x3
   have a4 := a2.trans a3.1
   have h1 := a2.pos; have h2 := a3.1.pos; have h3 := a3.2
   dsimp only at *
   exact closed_le _ _ _ _ a4 (by simp [ST.cntL]; omega) (by omega)
  split
  ·have a1 := spaces_le r h
   generalize spaces r = x1 at *
   obtain ⟨v1, r1⟩ := x1
   dsimp only at *
   have a2 : Le r (if next r1 = 34 ∨ next r1 = 39 ∨ next r1 = 42 then r1.unsure else r1) := by
    split
    ·exact a1.unsure
    exact a1
   generalize (if next r1 = 34 ∨ next r1 = 39 ∨ next r1 = 42 then r1.unsure else r1) = r2 at *
   have a3 := a2.trans (name_le r2 a2.ok).1
   generalize name r2 = x3 at *
   obtain ⟨nm, r3⟩ := x3
   dsimp only at *
   have a4 := a3.trans (small_le r3 nm a3.ok)
   generalize small r3 nm = x4 at *
   obtain ⟨v, r4⟩ := x4
   dsimp only at *
   have a5 := a4.trans (spaces_le r4 a4.ok)
   generalize spaces r4 = x5 at *
   obtain ⟨v5, r5⟩ := x5
   dsimp only at *
   exact closed_le _ _ _ _ (a5.orU _) (by simp [ST.cntL]; omega) (by omega)
  have a1 := spaces_le r h
  generalize spaces r = x1 at *
  obtain ⟨v1, r1⟩ := x1
  dsimp only at *
  have a3 := a1.trans (value_le r1 a1.ok).1
  generalize value r1 = x3 at *
  obtain ⟨nm, r3⟩ := x3
  dsimp only at *
  have a4 := a3.trans (small_le r3 nm a3.ok)
  generalize small r3 nm = x4 at *
  obtain ⟨v, r4⟩ := x4
  dsimp only at *
  have a5 := a4.trans (spaces_le r4 a4.ok)
  generalize spaces r4 = x5 at *
  obtain ⟨v5, r5⟩ := x5
  dsimp only at *
  exact closed_le _ _ _ _ a5 (by simp [ST.cntL]; omega) (by omega)
include hgrp in
theorem pseudo_le (r : Rd) (h : Ok r) : Step 1 r (pseudo grp r) := by
 obtain ⟨a1, l1⟩ := name_le r h
 unfold pseudo
 dsimp only
 generalize name r = x1 at *
 obtain ⟨nm, r1⟩ := x1
 dsimp only at *
 split
 ·exact Step.after a1 (Step.fail a1.ok (Nat.le_refl 1)) (Nat.le_refl 1)
 split
 ·split
  ·exact Step.after a1.unsure (Step.fail a1.unsure.ok (Nat.le_refl 1)) (Nat.le_refl 1)
  exact Step.after a1 (Step.leaf a1.ok _ (Nat.le_refl 1)) (Nat.le_refl 1)
 split
 ·exact Step.after a1.unsure (Step.fail a1.unsure.ok (Nat.le_refl 1)) (Nat.le_refl 1)
 split
 ·exact Step.after a1 (Step.fail a1.ok (Nat.le_refl 1)) (Nat.le_refl 1)
 rename_i hfk
 have hne : nm ≠ [] := by
  intro e
  subst e
  exact hfk (by decide)
 have hn1 : 1 ≤ nm.length := by
  cases nm with
  | nil => exact absurd rfl hne
  | cons _ _ => simp
 have hp1 : r.pos + 1 ≤ r1.pos := by omega
 have a2 := a1.trans (taken_le r1 [40] a1.ok)
 have p2 := (taken_le r1 [40] a1.ok).pos
 generalize taken r1 [40] = x2 at *
 obtain ⟨e, r2⟩ := x2
 dsimp only at *
 split
 ·have a3 := argument_le grp hgrp (kindOf (lower nm)) (nthFlag (lower nm)) r2 a2.ok
  generalize argument grp (kindOf (lower nm)) (nthFlag (lower nm)) r2 = x3 at *
  obtain ⟨k, r3⟩ := x3
  refine ⟨a2.trans a3.1, ?_⟩
  have h2 := a3.1.pos; have h3 := a3.2
  dsimp only at *
  omega
 exact Step.after a2 (Step.fail a2.ok (Nat.le_refl 1)) (Nat.le_refl 1)
def StepL (r : Rd) (f : List ST × List UInt8 × Bool × Rd) : Prop := Le r f.2.2.2 ∧ ST.cntL f.1 ≤ 4 * (f.2.2.2.pos - r.pos) ∧ (f.2.2.1 = false → f.2.2.2 = r)
theorem StepL.one {r r' : Rd} {f : ST × Rd} (hr : r.pos + 1 ≤ r'.pos) (h : Le r r') (k : Step 1 r' f) : StepL r ([f.1], [], true, f.2) := by
 refine ⟨h.trans k.1, ?_, fun e => by cases e⟩
 have h1 := h.pos; have h2 := k.1.pos; have h3 := k.2
 simp only [ST.cntL]
 omega
include hgrp in
theorem simple_le (r : Rd) (h : Ok r) : StepL r (simple grp r) := by
 unfold simple
 dsimp only
 by_cases h0 : next r = 0
 ·rw [h0]
  simp only [show ¬ (0 : Nat) = 46 from by decide, show ¬ (0 : Nat) = 35 from by decide, show ¬ (0 : Nat) = 91 from by decide, show ¬ (0 : Nat) = 58 from by decide, if_false]
  exact ⟨Le.refl h, by simp [ST.cntL], fun _ => rfl⟩
 have hp := next_pos h0
 have a0 := le_step (r := r) (by omega)
 have e0 : r.pos + 1 ≤ (r.adv 1).pos := Nat.le_refl _
 split
 ·have a1 := (name_le (r.adv 1) a0.ok).1
  generalize name (r.adv 1) = x1 at *
  obtain ⟨nm, r1⟩ := x1
  exact StepL.one (f := (ST.node _ [], r1)) e0 a0 ⟨a1, by rw [cnt_leaf]; omega⟩
 split
 ·have a1 := (hash_le (r.adv 1) a0.ok).1
  generalize hash (r.adv 1) = x1 at *
  obtain ⟨nm, r1⟩ := x1
  exact StepL.one (f := (ST.node _ [], r1)) e0 a0 ⟨a1, by rw [cnt_leaf]; omega⟩
 split
 ·have a1 := attrib_le (r.adv 1) a0.ok
  generalize attrib (r.adv 1) = x1 at *
  obtain ⟨nm, r1⟩ := x1
  exact StepL.one e0 a0 a1
 split
 ·have a1 := taken_le (r.adv 1) [58] a0.ok
  generalize taken (r.adv 1) [58] = x1 at *
  obtain ⟨e, r1⟩ := x1
  dsimp only at *
  split
  ·have a2 := (element_le r1 a1.ok).1
   generalize element r1 = x2 at *
   obtain ⟨nm, r2⟩ := x2
   exact ⟨(a0.trans a1).trans a2, by simp [ST.cntL], fun e => by cases e⟩
  have a2 := pseudo_le grp hgrp r1 a1.ok
  generalize pseudo grp r1 = x2 at *
  obtain ⟨nm, r2⟩ := x2
  have := a1.pos
  exact StepL.one (r' := r1) (by omega) (a0.trans a1) a2
 exact ⟨Le.refl h, by simp [ST.cntL], fun _ => rfl⟩
def CPost (l : List ST) (r : Rd) : (ST × Rd) ⊕ (List ST × List UInt8 × Nat × Rd) → Prop
 | .inl f => Step 1 r f
 | .inr f => Le r f.2.2.2 ∧ ST.cntL f.1 ≤ ST.cntL l + 4 * (f.2.2.2.pos - r.pos)
include hgrp in
theorem compoundGo_le (pe : Bool) : ∀ (k : Nat) (l : List ST) (v : List UInt8) (many : Nat) (r : Rd), Ok r → CPost l r (compoundGo grp pe k l v many r)
 | 0, l, v, many, r, h => by
  rw [compoundGo]
  exact ⟨Le.refl h, Nat.le_add_right _ _⟩
 | k + 1, l, v, many, r, h => by
  rw [compoundGo]
  split
  ·have a1 := simple_le grp hgrp r h
   dsimp only
   generalize simple grp r = x1 at *
   obtain ⟨one, what, is, r1⟩ := x1
   obtain ⟨a1, c1, n1⟩ := a1
   dsimp only at *
   have p1 := a1.pos
   split
   ·refine ⟨a1, ?_⟩
    dsimp only
    omega
   split
   ·split
    ·exact Step.after (a1.orU _) (Step.fail (a1.orU _).ok (Nat.le_refl 1)) (Nat.le_refl 1)
    split
    ·exact Step.after a1.unsure (Step.fail a1.unsure.ok (Nat.le_refl 1)) (Nat.le_refl 1)
    have ih := compoundGo_le pe k l what (many + 1) r1 a1.ok
    generalize compoundGo grp pe k l what (many + 1) r1 = y at *
    cases y with
    | inl f => exact Step.after a1 ih (Nat.le_refl 1)
    | inr f =>
     have p2 := ih.1.pos
     refine ⟨a1.trans ih.1, ?_⟩
     have := ih.2
     omega
   have a2 : Le r (if v = [] then r1 else r1.unsure) ∧ (if v = [] then r1 else r1.unsure).pos = r1.pos := by
    split
    ·exact ⟨a1, rfl⟩
    exact ⟨a1.unsure, rfl⟩
   generalize (if v = [] then r1 else r1.unsure) = r2 at *
   obtain ⟨a2, e2⟩ := a2
   have ih := compoundGo_le pe k (l ++ one) v (many + 1) r2 a2.ok
   generalize compoundGo grp pe k (l ++ one) v (many + 1) r2 = y at *
   cases y with
   | inl f => exact Step.after a2 ih (Nat.le_refl 1)
   | inr f =>
    have p2 := ih.1.pos
    refine ⟨a2.trans ih.1, ?_⟩
    have := ih.2
    rw [ST.cntL_append] at this
    omega
  exact ⟨Le.refl h, Nat.le_add_right _ _⟩
include hgrp in
theorem compound_le (pe : Bool) (r : Rd) (h : Ok r) : Step 2 r (compound grp pe r) := by
 have a1 := taken_le r [42] h
 unfold compound
 dsimp only
 generalize taken r [42] = x1 at *
 obtain ⟨st, r1⟩ := x1
 dsimp only at *
 have a2 : Le r (if st = true then (([] : List ST), (1 : Nat), r1) else if (nameFollows r1).1 = true then ([ST.node { SelN.mk1 2 with key := lower (name (nameFollows r1).2).1 } []], 1, (name (nameFollows r1).2).2) else ([], 0, (nameFollows r1).2)).2.2 ∧ ST.cntL (if st = true then (([] : List ST), (1 : Nat), r1) else if (nameFollows r1).1 = true then ([ST.node { SelN.mk1 2 with key := lower (name (nameFollows r1).2).1 } []], 1, (name (nameFollows r1).2).2) else ([], 0, (nameFollows r1).2)).1 ≤ 1 := by
  split
  ·exact ⟨a1, by simp [ST.cntL]⟩
  have b1 := a1.trans (nameFollows_le r1 a1.ok)
  split
  ·exact ⟨b1.trans (name_le _ b1.ok).1, by simp [ST.cntL, ST.cnt]⟩
  exact ⟨b1, by simp [ST.cntL]⟩
 generalize (if st = true then (([] : List ST), (1 : Nat), r1) else if (nameFollows r1).1 = true then ([ST.node { SelN.mk1 2 with key := lower (name (nameFollows r1).2).1 } []], 1, (name (nameFollows r1).2).2) else ([], 0, (nameFollows r1).2)) = x2 at *
 obtain ⟨l, many, r2⟩ := x2
 obtain ⟨a2, c2⟩ := a2
 dsimp only at *
 have a3 := compoundGo_le grp hgrp pe (r2.s.length + 1) l [] many r2 a2.ok
 have p2 := a2.pos
 generalize compoundGo grp pe (r2.s.length + 1) l [] many r2 = x3 at *
 cases x3 with
 | inl f => exact Step.after a2 a3 (by omega)
 | inr f =>
  obtain ⟨l', v', many', r3⟩ := f
  obtain ⟨a3, c3⟩ := a3
  dsimp only at *
  have p3 := a3.pos
  have a4 : Le r (if next r3 = 124 ∨ next r3 = 42 then r3.unsure else r3) ∧ (if next r3 = 124 ∨ next r3 = 42 then r3.unsure else r3).pos = r3.pos := by
   split
   ·exact ⟨(a2.trans a3).unsure, rfl⟩
   exact ⟨a2.trans a3, rfl⟩
  generalize (if next r3 = 124 ∨ next r3 = 42 then r3.unsure else r3) = r4 at *
  obtain ⟨a4, e4⟩ := a4
  split
  ·exact Step.after a4 (Step.fail a4.ok (Nat.le_refl 1)) (by omega)
  refine ⟨a4, ?_⟩
  rw [ST.cnt]
  dsimp only
  omega
theorem spaces_blank {r : Rd} (h : (spaces r).1 = true) : r.pos + 1 ≤ (spaces r).2.pos := by
 unfold spaces at h ⊢
 dsimp only at *
 have := of_decide_eq_true h
 omega
include hgrp in
theorem complexGo_le (pe : Bool) : ∀ (k : Nat) (left : ST) (r : Rd) (c : Nat), Ok r → left.cnt ≤ c → 1 ≤ c → Step c r (complexGo grp pe k left r)
 | 0, left, r, c, h, hc, hc1 => ⟨Le.refl h, by rw [complexGo]; dsimp only; omega⟩
 | k + 1, left, r, c, h, hc, hc1 => by
  rw [complexGo]
  split
  ·exact ⟨Le.refl h, by dsimp only; omega⟩
  have a1 := spaces_le r h
  have b1 := @spaces_blank r
  dsimp only
  generalize spaces r = x1 at *
  obtain ⟨blank, r1⟩ := x1
  dsimp only at *
  have p1 := a1.pos
  generalize hop : (if next r1 = 62 then 2 else if next r1 = 43 then 3 else if next r1 = 126 then 4 else 0) = op
  have a2 : ∀ op' r', (if 0 < op then some (op, (spaces (r1.adv 1)).2) else if r1.s.length ≤ r1.pos ∨ next r1 = 44 ∨ next r1 = 41 then none else if blank = true then some (1, r1) else none) = some (op', r') → Le r r' ∧ r.pos + 1 ≤ r'.pos := by
   intro op' r' e
   split at e
   ·rename_i h0
    have hn : next r1 ≠ 0 := by
     intro e0
     rw [e0] at hop
     simp at hop
     omega
    have hp := next_pos hn
    have c1 := a1.trans (le_step (r := r1) (by omega))
    have c2 := spaces_le _ c1.ok
    have q2 := c2.pos
    simp only [Option.some.injEq, Prod.mk.injEq] at e
    rw [← e.2]
    refine ⟨c1.trans c2, ?_⟩
    rw [adv_pos] at q2
    omega
   split at e
   ·cases e
   split at e
   ·rename_i hb
    simp only [Option.some.injEq, Prod.mk.injEq] at e
    rw [← e.2]
    exact ⟨a1, b1 hb⟩
   cases e
  generalize (if 0 < op then some (op, (spaces (r1.adv 1)).2) else if r1.s.length ≤ r1.pos ∨ next r1 = 44 ∨ next r1 = 41 then none else if blank = true then some (1, r1) else none) = go at *
  cases go with
  | none => exact ⟨a1, by dsimp only; omega⟩
  | some x =>
   obtain ⟨op', r2⟩ := x
   obtain ⟨a2, p2⟩ := a2 op' r2 rfl
   dsimp only
   split
   ·exact Step.after a2.unsure (Step.fail a2.unsure.ok hc1) (Nat.le_refl c)
   have a3 := compound_le grp hgrp pe r2 a2.ok
   generalize compound grp pe r2 = x3 at *
   obtain ⟨y, r3⟩ := x3
   obtain ⟨a3, c3⟩ := a3
   dsimp only at *
   have p3 := a3.pos
   exact Step.more (a2.trans a3) (complexGo_le pe k (ST.node { SelN.mk1 22 with op := op' } [left, y]) r3 (c + 4 * (r3.pos - r.pos)) (a2.trans a3).ok (by simp only [ST.cnt, ST.cntL]; omega) (by omega))
include hgrp in
theorem complex_le (pe : Bool) (r : Rd) (h : Ok r) : Step 2 r (complex grp pe r) := by
 have a1 := spaces_le r h
 unfold complex
 dsimp only
 generalize spaces r = x1 at *
 obtain ⟨v1, r1⟩ := x1
 dsimp only at *
 have a2 := compound_le grp hgrp pe r1 a1.ok
 generalize compound grp pe r1 = x2 at *
 obtain ⟨left, r2⟩ := x2
 obtain ⟨a2, c2⟩ := a2
 dsimp only at *
 have p1 := a1.pos; have p2 := a2.pos
 have a3 := complexGo_le grp hgrp pe (r2.s.length + 2) left r2 (2 + 4 * (r2.pos - r.pos)) (a1.trans a2).ok (by omega) (by omega)
 refine ⟨(a1.trans a2).trans a3.1, ?_⟩
 have := a3.2
 have := a3.1.pos
 omega
include hgrp in
theorem groupGo_le (pe : Bool) : ∀ (k : Nat) (l : List ST) (r : Rd), Ok r → Le r (groupGo grp pe k l r).2 ∧ ST.cntL (groupGo grp pe k l r).1 ≤ ST.cntL l + 4 * ((groupGo grp pe k l r).2.pos - r.pos)
 | 0, l, r, h => ⟨Le.refl h, Nat.le_add_right _ _⟩
 | k + 1, l, r, h => by
  rw [groupGo]
  split
  ·exact ⟨Le.refl h, Nat.le_add_right _ _⟩
  have a1 := taken_le r [44] h
  have b1 : (taken r [44]).1 = true → r.pos + 1 ≤ (taken r [44]).2.pos := by
   unfold taken
   split
   ·intro _; exact Nat.le_refl _
   intro e; cases e
  dsimp only
  generalize taken r [44] = x1 at *
  obtain ⟨e, r1⟩ := x1
  dsimp only at *
  split
  ·rename_i he
   have p1 := b1 he
   have a2 := complex_le grp hgrp pe r1 a1.ok
   generalize complex grp pe r1 = x2 at *
   obtain ⟨y, r2⟩ := x2
   obtain ⟨a2, c2⟩ := a2
   dsimp only at *
   have p2 := a2.pos
   have ih := groupGo_le pe k (l ++ [y]) r2 (a1.trans a2).ok
   refine ⟨(a1.trans a2).trans ih.1, ?_⟩
   have h1 := ih.2
   have h2 := ih.1.pos
   rw [ST.cntL_append] at h1
   simp only [ST.cntL] at h1
   omega
  exact ⟨a1, Nat.le_add_right _ _⟩
include hgrp in
theorem groupW_le (pe : Bool) (r : Rd) (h : Ok r) : Step 3 r (groupW grp pe r) := by
 have a1 := complex_le grp hgrp pe r h
 unfold groupW
 dsimp only
 generalize complex grp pe r = x1 at *
 obtain ⟨l, r1⟩ := x1
 obtain ⟨a1, c1⟩ := a1
 dsimp only at *
 have p1 := a1.pos
 have a2 := groupGo_le grp hgrp pe (r1.s.length + 2) [l] r1 a1.ok
 generalize groupGo grp pe (r1.s.length + 2) [l] r1 = x2 at *
 obtain ⟨l2, r2⟩ := x2
 obtain ⟨a2, c2⟩ := a2
 dsimp only at *
 have p2 := a2.pos
 refine ⟨a1.trans a2, ?_⟩
 rw [ST.cnt]
 simp only [ST.cntL] at c2
 dsimp only
 omega
end
theorem group_le : ∀ (k : Nat) (pe : Bool) (r : Rd), Ok r → Step 3 r (group k pe r)
 | 0, pe, r, h => ⟨Le.refl h, by rw [group]; dsimp only; rw [cnt_failed]; omega⟩
 | k + 1, pe, r, h => by
  rw [group]
  exact groupW_le (group k false) (fun r h => group_le k false r h) pe r h
end Sp
end Go.Proofs.YtogfnbkccfkpoaaGreatDoor
