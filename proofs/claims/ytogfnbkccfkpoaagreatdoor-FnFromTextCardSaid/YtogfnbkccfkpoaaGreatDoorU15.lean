/- A part (15) of the proof of the row of laws.FnFromText: lemmas on LwJ, LwM, LwN, LwO, LwP, LwQ. No condition but what each statement says. -/
import Derived.Test.YtogfnbkccfkpoaaGreatDoorU14
set_option linter.unusedSimpArgs false
set_option linter.unusedVariables false
namespace Go.Proofs.YtogfnbkccfkpoaaGreatDoor
open Go Go.RowKit
namespace Lw
open Sp
theorem ident_end {s : List UInt8} {i : Nat} (h : s.length ≤ i) : Im.ident s i = none := by
 have hde : Im.dashEnd s (s.length + 1) i = i := dashEnd_fuel s _ _ om (.inl om)
 rw [Im.ident, hde, Im.identAt, if_pos h]
theorem word_end {s : List UInt8} {i : Nat} (h : s.length ≤ i) : Im.word s i = none := by
 rw [Im.word, byteAt_end om, if_neg dC, ident_end h]
theorem sim_attr {t : ST} (hk : t.top.kind = 5) (hl : t.kids = []) (k v o : List UInt8) (b : Bool) : Sim1 t (.attr k v o b) := by
 cases t with
 | node x l =>
  simp only [ST.top, ST.kids] at hk hl
  subst hl
  refine ⟨?_, ?_, rfl, ?_, ?_⟩
  ·rw [specy, if_neg om, if_neg om, if_neg om, if_neg om, if_neg om]; rfl
  ·simp only [ST.flat, ST.flatL, pseudoOf]
   rw [if_neg om]
  ·show x.kind ≠ 21; omega
  show x.kind ≠ 22; omega
theorem aT2_out {s : List UInt8} (hr : readable s = true) (key : List UInt8) (op : Nat) (key' ob : List UInt8) (hob : signs.contains ob = true) {i : Nat} (hi : i ≤ s.length) : OutT s (aT2 key op (St s i)) (Im.attrVal s key' ob i) Sim1 := by
 have hok : Ok (St s i) := by show i ≤ s.length + 1; omega
 have hw := Im.ws_le s i
 have hj := hw.2 hi
 have hD := aT2_dead (s := s) key op hok
 have l1 := spaces_le (St s i) hok
 rcases spaces_ws hi with hu | ⟨he, -⟩
 ·have hu2 : (aT2 key op (St s i)).2.uns = true := by
   unfold aT2
   generalize spaces (St s i) = S at l1 hu
   obtain ⟨b0, r1⟩ := S
   simp only at l1 hu ⊢
   have l2 := (value_le _ l1.ok).1
   generalize value r1 = V at l2
   obtain ⟨val, r2⟩ := V
   simp only at l2 ⊢
   exact (aT3_dead (s := s) key op val l2.ok).1.uns (l2.uns hu)
  exact OutT.dead (.inl hu2) (.inl hu2)
 have hS : spaces (St s i) = ((spaces (St s i)).1, St s (Im.ws s i)) := by rw [← he]
 have e2 : aT2 key op (St s i) = aT3 key op (value (St s (Im.ws s i))).1 (value (St s (Im.ws s i))).2 := by
  unfold aT2; rw [hS]
 rw [e2]
 have hv := (value_out hr hj).cases
 have hlev := (value_le (St s (Im.ws s i)) (show Im.ws s i ≤ s.length + 1 by omega)).1
 simp only [Im.attrVal]
 generalize Im.ws s i = j at hj hv hlev
 have h3 := aT3_dead (s := s) key op (value (St s j)).1 hlev.ok
 rcases hv with ⟨h1, h2⟩ | ⟨v, k, hM, hR, hk⟩
 ·refine OutT.dead ?_ (h3.2 h2)
  rcases h1 with h1 | h1
  ·exact .inl (h3.1.uns h1)
  right
  rw [h1]
  by_cases hjl : s.length ≤ j
  ·rw [if_pos hjl]
  rw [if_neg hjl]
 have hjl : ¬ s.length ≤ j := fun h => by rw [word_end h] at hM; cases hM
 rw [if_neg hjl, hM, hR]
 simp only
 rcases aT3_out key op v (i := k) hk with hu | hres
 ·exact OutT.dead (.inl hu) (.inl hu)
 simp only at hres
 generalize Im.ws s k = m at hres
 generalize decide (byteAt s m = 105 ∨ byteAt s m = 73) = ins at hres
 generalize hq : Im.ws s (if ins = true then m + 1 else m) = p at hres
 by_cases hm : s.length ≤ m
 ·rw [if_pos hm]
  rw [if_neg (fun hh => by omega)] at hres
  exact OutT.dead (.inr rfl) hres
 rw [if_neg hm]
 by_cases hp : s.length ≤ p
 ·rw [if_pos hp]
  rw [if_neg (fun hh => by omega)] at hres
  exact OutT.dead (.inr rfl) hres
 rw [if_neg hp]
 by_cases h93 : byteAt s p = 93
 ·rw [if_neg (fun hh => hh h93), if_pos hob]
  rw [if_pos ⟨om, om, h93⟩] at hres
  obtain ⟨t, ht, hkind, hkids⟩ := hres
  rw [ht]
  exact .inr ⟨_, p + 1, rfl, rfl, om, sim_attr hkind hkids _ _ _ _⟩
 rw [if_pos h93]
 rw [if_neg (fun hh => h93 hh.2.2)] at hres
 exact OutT.dead (.inr rfl) hres
theorem attrVal_pos {s key op : List UInt8} {i : Nat} {x : IS} {j : Nat} (hi : i ≤ s.length) (h : Im.attrVal s key op i = some (x, j)) : i + 2 ≤ j ∧ j ≤ s.length := by
 have a1 := Im.ws_le s i
 have b1 := a1.2 hi
 simp only [Im.attrVal] at h
 split at h
 ·cases h
 cases hw : Im.word s (Im.ws s i) with
 | none => rw [hw] at h; cases h
 | some p =>
  obtain ⟨val, i2⟩ := p
  rw [hw] at h
  have a2 := Im.word_le hw
  have a3 := Im.ws_le s i2
  have b3 := a3.2 a2.2.1
  simp only at h
  split at h
  ·cases h
  generalize decide (byteAt s (Im.ws s i2) = 105 ∨ byteAt s (Im.ws s i2) = 73) = ins at h
  have hx : (if ins = true then Im.ws s i2 + 1 else Im.ws s i2) ≤ s.length ∧ Im.ws s i2 ≤ (if ins = true then Im.ws s i2 + 1 else Im.ws s i2) := by split <;> omega
  generalize (if ins = true then Im.ws s i2 + 1 else Im.ws s i2) = i3 at h hx
  have a4 := Im.ws_le s i3
  have b4 := a4.2 hx.1
  split at h
  ·cases h
  split at h
  ·cases h
  split at h
  ·simp only [Option.some.injEq, Prod.mk.injEq] at h
   obtain ⟨rfl, rfl⟩ := h
   exact ⟨om, om⟩
  cases h
theorem taken2 {s : List UInt8} {i : Nat} (hi : i ≤ s.length) (a b : UInt8) : taken (St s i) [a, b] = if i + 1 < s.length ∧ byteAt s i = a.toNat ∧ byteAt s (i + 1) = b.toNat then (true, St s (i + 2)) else (false, St s i) := by
 have e : here (St s i) [a, b] = true ↔ i + 1 < s.length ∧ byteAt s i = a.toNat ∧ byteAt s (i + 1) = b.toNat := by
  unfold here St
  simp only [Bool.and_eq_true, decide_eq_true_eq, List.length_cons, List.length_nil]
  constructor
  ·rintro ⟨h1, h2⟩
   have := (take2_eq (show i + 1 < s.length by omega) a b).1 (by rw [show i + 2 - i = 2 from by omega]; exact h2)
   exact ⟨om, this⟩
  rintro ⟨h1, h2⟩
  have := (take2_eq h1 a b).2 h2
  rw [show i + 2 - i = 2 from by omega] at this
  exact ⟨om, this⟩
 rw [taken]
 by_cases h : here (St s i) [a, b] = true
 ·rw [if_pos h, if_pos (e.1 h)]; rfl
 rw [if_neg h, if_neg (fun hh => h (e.2 hh))]
theorem sign_out {s : List UInt8} {j : Nat} (hj : j ≤ s.length) :
 (byteAt s j = 61 ∧ signGo (St s j) 7 2 = (2, St s (j + 1)) ∧ j < s.length) ∨
 (¬ byteAt s j = 61 ∧ ∃ op, op ≠ 1 ∧ j + 1 < s.length ∧ byteAt s (j + 1) = 61 ∧ signs.contains ((s.drop j).take 2) = true ∧ signGo (St s j) 7 2 = (op, St s (j + 2))) ∨
 (¬ byteAt s j = 61 ∧ signGo (St s j) 7 2 = (1, St s j) ∧ (j + 1 < s.length → byteAt s (j + 1) = 61 → signs.contains ((s.drop j).take 2) = false)) := by
 have t1 := taken1 (s := s) (i := j) 61
 have t2 := fun a => taken2 (s := s) hj a 61
 by_cases h61 : byteAt s j = 61
 ·left
  have hl : j < s.length := by
   by_cases h : j < s.length
   ·exact h
   rw [byteAt_end h] at h61; omega
  rw [if_pos ⟨hl, h61⟩] at t1
  refine ⟨h61, ?_, hl⟩
  rw [signGo]
  show (if (taken (St s j) [61]).1 = true then (2, (taken (St s j) [61]).2) else _) = _
  rw [t1]; rfl
 right
 rw [if_neg (fun hh => h61 hh.2)] at t1
 have hgo : signGo (St s j) 7 2 = if (taken (St s j) [33, 61]).1 = true then (3, (taken (St s j) [33, 61]).2) else if (taken (St s j) [126, 61]).1 = true then (4, (taken (St s j) [126, 61]).2) else if (taken (St s j) [124, 61]).1 = true then (5, (taken (St s j) [124, 61]).2) else if (taken (St s j) [94, 61]).1 = true then (6, (taken (St s j) [94, 61]).2) else if (taken (St s j) [36, 61]).1 = true then (7, (taken (St s j) [36, 61]).2) else if (taken (St s j) [42, 61]).1 = true then (8, (taken (St s j) [42, 61]).2) else (1, St s j) := by
  rw [signGo]
  show (if (taken (St s j) [61]).1 = true then (2, (taken (St s j) [61]).2) else _) = _
  rw [t1]; rfl
 rw [hgo]
 by_cases hb : j + 1 < s.length ∧ byteAt s (j + 1) = 61
 ·have tt : ∀ a : UInt8, taken (St s j) [a, 61] = if byteAt s j = a.toNat then (true, St s (j + 2)) else (false, St s j) := fun a => by
   rw [t2 a]
   by_cases h : byteAt s j = a.toNat
   ·rw [if_pos ⟨hb.1, h, hb.2⟩, if_pos h]
   rw [if_neg (fun hh => h hh.2.1), if_neg h]
  have hk : ∀ a : UInt8, byteAt s j = a.toNat → (s.drop j).take 2 = [a, 61] := fun a ha => by
   have := (take2_eq (t := s) (i := j) hb.1 a 61).2 ⟨ha, hb.2⟩
   rwa [show j + 2 - j = 2 from by omega] at this
  simp only [tt]
  by_cases c1 : byteAt s j = (33 : UInt8).toNat
  ·left; rw [if_pos c1, hk _ c1]; exact ⟨h61, 3, by decide, hb.1, hb.2, by decide, rfl⟩
  rw [if_neg c1]
  by_cases c2 : byteAt s j = (126 : UInt8).toNat
  ·left; rw [if_pos c2, hk _ c2]; exact ⟨h61, 4, by decide, hb.1, hb.2, by decide, rfl⟩
  rw [if_neg c2]
  by_cases c3 : byteAt s j = (124 : UInt8).toNat
  ·left; rw [if_pos c3, hk _ c3]; exact ⟨h61, 5, by decide, hb.1, hb.2, by decide, rfl⟩
  rw [if_neg c3]
  by_cases c4 : byteAt s j = (94 : UInt8).toNat
  ·left; rw [if_pos c4, hk _ c4]; exact ⟨h61, 6, by decide, hb.1, hb.2, by decide, rfl⟩
  rw [if_neg c4]
  by_cases c5 : byteAt s j = (36 : UInt8).toNat
  ·left; rw [if_pos c5, hk _ c5]; exact ⟨h61, 7, by decide, hb.1, hb.2, by decide, rfl⟩
  rw [if_neg c5]
  by_cases c6 : byteAt s j = (42 : UInt8).toNat
  ·left; rw [if_pos c6, hk _ c6]; exact ⟨h61, 8, by decide, hb.1, hb.2, by decide, rfl⟩
  rw [if_neg c6]
  right
  refine ⟨h61, rfl, fun _ _ => ?_⟩
  obtain ⟨a, ha⟩ : ∃ a : UInt8, byteAt s j = a.toNat := ⟨s[j], by simp [byteAt, List.getD_eq_getElem?_getD, List.getElem?_eq_getElem (show j < s.length by omega)]⟩
  rw [hk a ha]
  rw [ha] at c1 c2 c3 c4 c5 c6
  cases hq : signs.contains [a, 61] with
  | false => rfl
  | true =>
   exfalso
   rw [List.contains_iff_mem] at hq
   simp only [signs, List.mem_cons, List.cons.injEq, List.not_mem_nil, or_false, and_true, reduceCtorEq, and_false, false_or] at hq
   rcases hq with h | h | h | h | h | h
   ·exact c1 (by rw [h])
   ·exact c2 (by rw [h])
   ·exact c3 (by rw [h])
   ·exact c4 (by rw [h])
   ·exact c5 (by rw [h])
   exact c6 (by rw [h])
 have tt : ∀ a : UInt8, taken (St s j) [a, 61] = (false, St s j) := fun a => by
  rw [t2 a, if_neg (fun hh => hb ⟨hh.1, hh.2.2⟩)]
 simp only [tt]
 exact .inr ⟨h61, rfl, fun h1 h2 => absurd ⟨h1, h2⟩ hb⟩
theorem attrib_out {s : List UInt8} (hr : readable s = true) {i : Nat} (hi : i < s.length) : OutT s (attrib (St s (i + 1))) (Im.attr s i) Sim1 := by
 have hok : Ok (St s (i + 1)) := by show i + 1 ≤ s.length + 1; omega
 have l1 := spaces_le (St s (i + 1)) hok
 have hA : Im.attr s i = match Im.ident s (Im.ws s (i + 1)) with
  | none => none
  | some (key, j) => if s.length ≤ Im.ws s j then none else if byteAt s (Im.ws s j) = 93 then some (.attr (lower key) [] [] false, Im.ws s j + 1) else if s.length ≤ Im.ws s j + 2 then none else if byteAt s (Im.ws s j) = 61 then Im.attrVal s (lower key) [61] (Im.ws s j + 1) else if ¬ byteAt s (Im.ws s j + 1) = 61 then none else Im.attrVal s (lower key) ((s.drop (Im.ws s j)).take 2) (Im.ws s j + 2) := rfl
 rw [attrib_eq]
 rcases spaces_ws (s := s) (i := i + 1) om with hu | ⟨he, -⟩
 ·have l2 := (name_le _ l1.ok).1
  have := (aT1_dead (s := s) (name (spaces (St s (i + 1))).2).1 l2.ok).1.uns (l2.uns hu)
  exact OutT.dead (.inl this) (.inl this)
 have hk := (Im.ws_le s (i + 1)).2 om
 rw [he]
 generalize Im.ws s (i + 1) = k at hA hk
 have l2 := (name_le (St s k) (show k ≤ s.length + 1 by omega)).1
 rcases (name_out hr hk).cases with ⟨h1, h2⟩ | ⟨v, j, hM, hR, hj⟩
 ·have h3 := aT1_dead (s := s) (name (St s k)).1 l2.ok
  refine OutT.dead ?_ (h3.2 h2)
  rcases h1 with h1 | h1
  ·exact .inl (h3.1.uns h1)
  exact .inr (by rw [hA, h1])
 rw [hR, hA, hM]
 simp only
 have l3 := spaces_le (St s j) (show j ≤ s.length + 1 by omega)
 have hT := (aT1_dead (s := s) v (show Ok (St s j) by show j ≤ s.length + 1; omega))
 rcases spaces_ws hj with hu | ⟨he2, -⟩
 ·have : (aT1 v (St s j)).2.uns = true := by
   unfold aT1
   generalize spaces (St s j) = S at l3 hu
   obtain ⟨b0, r1⟩ := S
   simp only at l3 hu ⊢
   split
   ·exact (fail_le l3.ok).1.uns hu
   have l4 := taken_le r1 [93] l3.ok
   generalize taken r1 [93] = T at l4
   obtain ⟨e, r2⟩ := T
   simp only at l4 ⊢
   split
   ·exact l4.uns hu
   have l5 := signGo_le r2 l4.ok 7 2
   generalize signGo r2 7 2 = G at l5
   obtain ⟨op, r3⟩ := G
   simp only at l5 ⊢
   split
   ·exact (fail_le ((Le.refl l5.ok).orU _ |>.orU _).ok).1.uns (((Le.refl l5.ok).orU _ |>.orU _).uns (l5.uns (l4.uns hu)))
   exact (aT2_dead (s := s) v op l5.ok).1.uns (l5.uns (l4.uns hu))
  exact OutT.dead (.inl this) (.inl this)
 have hS : spaces (St s j) = ((spaces (St s j)).1, St s (Im.ws s j)) := by rw [← he2]
 have hm := (Im.ws_le s j).2 hj
 have eT : aT1 v (St s j) = (let (e, r) := taken (St s (Im.ws s j)) [93]
  if e then (ST.node ⟨5, 1, lower v, [], 0, 0, 0⟩ [], r) else
   let (op, r) := signGo r 7 2
   if op = 1 then fail ((r.orUns (next r == 124)).orUns (next r == 35)) else aT2 v op r) := by
  unfold aT1; rw [hS]; rfl
 generalize Im.ws s j = m at hm eT
 rw [eT, taken1]
 by_cases h93 : m < s.length ∧ byteAt s m = 93
 ·rw [if_pos (show m < s.length ∧ byteAt s m = (93 : UInt8).toNat from h93), if_neg om, if_pos h93.2]
  exact .inr ⟨_, m + 1, rfl, rfl, om, sim_attr rfl rfl _ _ _ _⟩
 rw [if_neg (show ¬ (m < s.length ∧ byteAt s m = (93 : UInt8).toNat) from h93)]
 simp only [Bool.false_eq_true, if_false]
 have hno : ∀ (key ob : List UInt8) (a : Nat), m ≤ a → a ≤ s.length → s.length ≤ a + 1 → Im.attrVal s key ob a = none := fun key ob a h1 h2 h3 => by
  cases hq : Im.attrVal s key ob a with
  | none => rfl
  | some p =>
   obtain ⟨x, j'⟩ := p
   have := attrVal_pos h2 hq
   omega
 have hMsome : ∀ (M : Option (IS × Nat)), (if s.length ≤ m then none else if byteAt s m = 93 then some (.attr (lower v) [] [] false, m + 1) else M) = if s.length ≤ m then none else M := fun M => by
  by_cases hl : s.length ≤ m
  ·rw [if_pos hl, if_pos hl]
  rw [if_neg hl, if_neg hl, if_neg (fun hh => h93 ⟨om, hh⟩)]
 rw [hMsome]
 rcases sign_out hm with ⟨s1, s2, s3⟩ | ⟨s1, op, s2, s3, s4, s5, s6⟩ | ⟨s1, s2, s3⟩
 ·rw [s2]
  have hM : (if s.length ≤ m then none else if s.length ≤ m + 2 then none else if byteAt s m = 61 then Im.attrVal s (lower v) [61] (m + 1) else if ¬ byteAt s (m + 1) = 61 then none else Im.attrVal s (lower v) ((s.drop m).take 2) (m + 2)) = Im.attrVal s (lower v) [61] (m + 1) := by
   rw [if_neg om]
   by_cases hl : s.length ≤ m + 2
   ·rw [if_pos hl, hno _ _ _ om om om]
   rw [if_neg hl, if_pos s1]
  rw [hM]
  exact aT2_out hr v 2 (lower v) [61] dC om
 ·rw [s6]
  simp only
  rw [if_neg s2]
  have hM : (if s.length ≤ m then none else if s.length ≤ m + 2 then none else if byteAt s m = 61 then Im.attrVal s (lower v) [61] (m + 1) else if ¬ byteAt s (m + 1) = 61 then none else Im.attrVal s (lower v) ((s.drop m).take 2) (m + 2)) = Im.attrVal s (lower v) ((s.drop m).take 2) (m + 2) := by
   rw [if_neg om]
   by_cases hl : s.length ≤ m + 2
   ·rw [if_pos hl, hno _ _ _ om om om]
   rw [if_neg hl, if_neg s1, if_neg (fun hh => hh s4)]
  rw [hM]
  exact aT2_out hr v op (lower v) _ s5 om
 rw [s2]
 simp only [if_true]
 refine OutT.dead (.inr ?_) ?_
 ·by_cases hl : s.length ≤ m
  ·rw [if_pos hl]
  rw [if_neg hl]
  by_cases hl2 : s.length ≤ m + 2
  ·rw [if_pos hl2]
  rw [if_neg hl2, if_neg s1]
  by_cases h61 : byteAt s (m + 1) = 61
  ·rw [if_neg (fun hh => hh h61), attrVal_no (s3 om h61)]
  rw [if_pos h61]
 rcases orUns2 (St s m) (next (St s m) == 124) (next (St s m) == 35) with h | h
 ·exact .inl h
 rw [h]; exact .inr ⟨rfl, rfl, rfl, .inl rfl⟩
def Kp (s : List UInt8) (r r' : Rd) : Prop := Le r r' ∧ (Dead s r → Dead s r')
theorem Kp.refl {s : List UInt8} {r : Rd} (h : Ok r) : Kp s r r := ⟨Le.refl h, id⟩
theorem Kp.trans {s : List UInt8} {a b c : Rd} (h : Kp s a b) (k : Kp s b c) : Kp s a c := ⟨h.1.trans k.1, fun d => k.2 (h.2 d)⟩
theorem Kp.ok {s : List UInt8} {a b : Rd} (h : Kp s a b) : Ok b := h.1.ok
section
variable {s : List UInt8} {a b : Rd}
theorem Kp.spaces (h : Kp s a b) : Kp s a (Sp.spaces b).2 := h.trans ⟨spaces_le _ h.ok, fun d => d.spaces h.ok⟩
theorem Kp.name (h : Kp s a b) : Kp s a (Sp.name b).2 := h.trans ⟨(name_le _ h.ok).1, fun d => d.name h.ok⟩
theorem Kp.value (h : Kp s a b) : Kp s a (Sp.value b).2 := h.trans ⟨(value_le _ h.ok).1, fun d => d.value h.ok⟩
theorem Kp.count (h : Kp s a b) : Kp s a (Sp.count b).2.2 := h.trans ⟨count_le _ h.ok, fun d => count_dead d h.ok⟩
theorem Kp.orUns (h : Kp s a b) (u : Bool) : Kp s a (b.orUns u) := h.trans ⟨le_orU h.ok u, fun d => d.orUns h.ok u⟩
theorem Kp.orBad (h : Kp s a b) (u : Bool) : Kp s a (b.orBad u) := h.trans ⟨le_orB h.ok u, fun d => d.orBad h.ok u⟩
theorem Kp.small (h : Kp s a b) (v : List UInt8) : Kp s a (Sp.small b v).2 := h.orUns _
theorem Kp.unsure (h : Kp s a b) : Kp s a b.unsure := h.trans ⟨le_uns h.ok, fun _ => .inl rfl⟩
theorem Kp.unsureIf (h : Kp s a b) (p : Prop) [Decidable p] : Kp s a (if p then b.unsure else b) := by
 split
 ·exact h.unsure
 exact h
theorem Kp.fail (h : Kp s a b) : Kp s a (Sp.fail b).2 := h.trans ⟨(fail_le h.ok).1, fun d => d.fail⟩
theorem Kp.taken (h : Kp s a b) (c : UInt8) (t : List UInt8) (hc : c ≠ 92) : Kp s a (Sp.taken b (c :: t)).2 := h.trans ⟨taken_le _ _ h.ok, fun d => d.taken h.ok c t hc⟩
theorem Kp.closed (h : Kp s a b) (x : SelN) (kid : List ST) : Kp s a (Sp.closed x kid b).2 := by
 refine h.trans ?_
 have h0 : Kp s b b := Kp.refl h.ok
 unfold Sp.closed
 split
 ·exact h0.fail
 have h1 := h0.taken 41 [] dC
 show Kp s b (if (Sp.taken b [41]).1 = true then (ST.node x kid, (Sp.taken b [41]).2) else Sp.fail (Sp.taken b [41]).2).2
 split
 ·exact h1
 exact h1.fail
end
def OutP (s : List UInt8) (R : ST × Rd) (M : Im.PseRes) : Prop :=
 (R.2.uns = true ∨ M = none) ∧ Dead s R.2 ∨ ∃ x j, M = some (some x, [], j) ∧ R.2 = St s j ∧ j ≤ s.length ∧ Sim1 R.1 x
theorem OutP.dead {s : List UInt8} {R : ST × Rd} {M : Im.PseRes} (h : R.2.uns = true ∨ M = none) (hd : Dead s R.2) : OutP s R M := .inl ⟨h, hd⟩
theorem OutP.uns {s : List UInt8} {R : ST × Rd} {M : Im.PseRes} (h : R.2.uns = true) : OutP s R M := .inl ⟨.inl h, .inl h⟩
theorem closed_out {s : List UInt8} {k : Nat} (x : SelN) (kid : List ST) (y : IS) (hS : Sim1 (.node x kid) y) : OutP s (closed x kid (St s k)) (if k < s.length ∧ byteAt s k = 41 then some (some y, [], k + 1) else none) := by
 unfold closed
 rw [if_neg (show ¬ (St s k).bad = true by simp [St]), taken1]
 by_cases h : k < s.length ∧ byteAt s k = 41
 ·rw [if_pos (show k < s.length ∧ byteAt s k = (41 : UInt8).toNat from h), if_pos h]
  exact .inr ⟨y, k + 1, rfl, rfl, om, hS⟩
 rw [if_neg (show ¬ (k < s.length ∧ byteAt s k = (41 : UInt8).toNat) from h), if_neg h]
 exact .inl ⟨.inr rfl, .inr ⟨rfl, rfl, rfl, .inl rfl⟩⟩
theorem closedW_out {s : List UInt8} {j : Nat} (hj : j ≤ s.length) (u : Rd → Bool) (x : SelN) (kid : List ST) (y : IS) (hS : Sim1 (.node x kid) y) :
 OutP s (closed x kid ((spaces (St s j)).2.orUns (u (spaces (St s j)).2))) (match Im.cclose s j with | none => none | some j => some (some y, [], j)) := by
 have k1 : Kp s (St s j) (spaces (St s j)).2 := (Kp.refl (show j ≤ s.length + 1 by omega)).spaces
 rcases spaces_ws hj with hu | ⟨he, -⟩
 ·have k2 := ((Kp.refl (s := s) k1.ok).orUns (u (spaces (St s j)).2)).closed x kid
  exact OutP.uns (k2.1.uns hu)
 rw [he]
 have hw := (Im.ws_le s j).2 hj
 have hM : (match Im.cclose s j with | none => none | some j => some (some y, [], j)) = (if Im.ws s j < s.length ∧ byteAt s (Im.ws s j) = 41 then some (some y, [], Im.ws s j + 1) else (none : Im.PseRes)) := by
  unfold Im.cclose
  split
  ·rename_i h
   split at h
   ·cases h
   rename_i hn; rw [if_neg hn]
  rename_i j' h
  split at h
  ·rename_i hn
   rw [if_pos hn]
   simp only [Option.some.injEq] at h
   rw [h]
  cases h
 rw [hM]
 rcases orUns_or (St s (Im.ws s j)) (u (St s (Im.ws s j))) with h | h
 ·have k2 := (Kp.refl (s := s) (show Ok ((St s (Im.ws s j)).orUns (u (St s (Im.ws s j)))) by show Im.ws s j ≤ s.length + 1; omega)).closed x kid
  exact OutP.uns (k2.1.uns h)
 rw [h]
 exact closed_out x kid y hS
theorem orUns_false (r : Rd) : r.orUns false = r := by
 obtain ⟨s, p, b, v, ps⟩ := r
 simp [Rd.orUns]
theorem closedW_out' {s : List UInt8} {j : Nat} (hj : j ≤ s.length) (x : SelN) (kid : List ST) (y : IS) (hS : Sim1 (.node x kid) y) :
 OutP s (closed x kid (spaces (St s j)).2) (match Im.cclose s j with | none => none | some j => some (some y, [], j)) := by
 have := closedW_out hj (fun _ => false) x kid y hS
 rwa [orUns_false] at this
theorem sim_class {x : SelN} {l : List ST} (h : x.kind ≠ 1 ∧ x.kind ≠ 2 ∧ x.kind ≠ 4 ∧ x.kind ≠ 18 ∧ x.kind ≠ 19 ∧ x.kind ≠ 20 ∧ x.kind ≠ 21 ∧ x.kind ≠ 22 ∧ x.kind ≠ 23) (hl : l = []) {y : IS} (hy : y.spec = ⟨0, 1, 0⟩) (hp : y.pel = []) : Sim1 (.node x l) y := by
 subst hl
 refine ⟨?_, ?_, hp, h.2.2.2.2.2.2.1, h.2.2.2.2.2.2.2.1⟩
 ·rw [specy, if_neg om, if_neg om, if_neg om, if_neg om, if_neg om, hy]
 simp only [ST.flat, ST.flatL, pseudoOf]
 rw [if_neg om]
section
variable (grp : Rd → ST × Rd)
theorem arg_nth_eq (kind fl : Nat) (r : Rd) : argument grp kind (some fl) r = closed ⟨6, 0, [], [], (count (spaces r).2).1, (count (spaces r).2).2.1, fl⟩ [] (spaces (count (spaces r).2).2.2).2 := by
 unfold argument
 simp only
theorem arg_rel_eq {kind : Nat} (h : kind = 18 ∨ kind = 19 ∨ kind = 20) (r : Rd) : argument grp kind none r = closed (SelN.mk1 kind) [(grp (if next (spaces r).2 = 62 ∨ next (spaces r).2 = 43 ∨ next (spaces r).2 = 126 then (spaces r).2.unsure else (spaces r).2)).1] (grp (if next (spaces r).2 = 62 ∨ next (spaces r).2 = 43 ∨ next (spaces r).2 = 126 then (spaces r).2.unsure else (spaces r).2)).2 := by
 unfold argument
 simp only
 rw [if_pos h]
def lang2 (nm : List UInt8) (r : Rd) : ST × Rd := closed ⟨15, 0, [], lower nm, 0, 0, 0⟩ [] ((spaces (small r nm).2).2.orUns (next (spaces (small r nm).2).2 == 44))
theorem arg_lang_eq (r : Rd) : argument grp 15 none r = lang2 (name (if next (spaces r).2 = 34 ∨ next (spaces r).2 = 39 ∨ next (spaces r).2 = 42 then (spaces r).2.unsure else (spaces r).2)).1 (name (if next (spaces r).2 = 34 ∨ next (spaces r).2 = 39 ∨ next (spaces r).2 = 42 then (spaces r).2.unsure else (spaces r).2)).2 := by
 unfold argument
 simp only
 rw [if_neg dC, if_pos trivial]
 rfl
def cont2 (kind : Nat) (nm : List UInt8) (r : Rd) : ST × Rd := closed ⟨kind, 0, [], lower nm, 0, 0, 0⟩ [] (spaces (small r nm).2).2
theorem arg_cont_eq {kind : Nat} (h : kind = 16 ∨ kind = 17) (r : Rd) : argument grp kind none r = cont2 kind (value (spaces r).2).1 (value (spaces r).2).2 := by
 unfold argument
 simp only
 rw [if_neg om, if_neg om]
 rfl
theorem Kp.lang2 {s : List UInt8} {a b : Rd} (h : Kp s a b) (nm : List UInt8) : Kp s a (lang2 nm b).2 := ((h.small nm).spaces.orUns _).closed _ _
theorem Kp.cont2 {s : List UInt8} {a b : Rd} (h : Kp s a b) (k : Nat) (nm : List UInt8) : Kp s a (cont2 k nm b).2 := ((h.small nm).spaces).closed _ _
theorem argument_kp {s : List UInt8} (hg : ∀ r, Ok r → Kp s r (grp r).2) {a b : Rd} (h : Kp s a b) {kind : Nat} {flag : Option Nat} (hk : flag = none → kind = 15 ∨ kind = 16 ∨ kind = 17 ∨ kind = 18 ∨ kind = 19 ∨ kind = 20) : Kp s a (argument grp kind flag b).2 := by
 cases flag with
 | some fl => rw [arg_nth_eq]; exact h.spaces.count.spaces.closed _ _
 | none =>
  have hk := hk rfl
  by_cases h1 : kind = 18 ∨ kind = 19 ∨ kind = 20
  ·rw [arg_rel_eq grp h1]
   have h2 := h.spaces.unsureIf (next (spaces b).2 = 62 ∨ next (spaces b).2 = 43 ∨ next (spaces b).2 = 126)
   exact (h2.trans (hg _ h2.ok)).closed _ _
  by_cases h2 : kind = 15
  ·subst h2
   rw [arg_lang_eq]
   exact (h.spaces.unsureIf _).name.lang2 _
  rw [arg_cont_eq grp om]
  exact h.spaces.value.cont2 _ _
variable {s : List UInt8} {j : Nat}
theorem cparen_yes (hj : j < s.length) (h : byteAt s j = 40) : Im.cparen s j = some (Im.ws s (j + 1)) := by rw [Im.cparen, if_pos ⟨hj, h⟩]
theorem cclose_end {j : Nat} (h : s.length ≤ j) : Im.cclose s j = none := by
 have := (Im.ws_le s j).1
 rw [Im.cclose, if_neg om]
theorem cclose_ws (h : j ≤ s.length) : Im.cclose s (Im.ws s j) = Im.cclose s j := by
 rw [Im.cclose, Im.cclose, ws_idem s j h]
theorem arg_nth (la ot : Bool) (kind fl : Nat) (hj : j < s.length) (hb : byteAt s j = 40) : OutP s (argument grp kind (some fl) (St s (j + 1))) (Im.pseNth s la ot j) := by
 have k0 : Kp s (St s (j + 1)) (St s (j + 1)) := Kp.refl (show j + 1 ≤ s.length + 1 by omega)
 rw [arg_nth_eq, Im.pseNth, cparen_yes hj hb]
 simp only
 rcases spaces_ws (s := s) (i := j + 1) om with hu | ⟨he, -⟩
 ·exact OutP.uns ((((Kp.refl (s := s) k0.spaces.ok).count.spaces).closed _ _).1.uns hu)
 rw [he]
 have hk := (Im.ws_le s (j + 1)).2 om
 generalize Im.ws s (j + 1) = k at hk
 have k1 : Kp s (St s k) (count (St s k)).2.2 := (Kp.refl (show k ≤ s.length + 1 by omega)).count
 have k2 : Kp s (count (St s k)).2.2 (count (St s k)).2.2 := Kp.refl k1.ok
 rcases count_out hk with ⟨h1, h2⟩ | ⟨h1, h2⟩ | ⟨a, b, m, hM, hR, hm⟩
 ·refine OutP.dead ?_ ((k2.spaces.closed _ _).2 h2)
  rcases h1 with h1 | h1
  ·exact .inl ((k2.spaces.closed _ _).1.uns h1)
  exact .inr (by rw [h1])
 ·have := closedW_out' (s := s) (j := s.length) (Nat.le_refl _) (⟨6, 0, [], [], (count (St s k)).1, (count (St s k)).2.1, fl⟩ : SelN) [] (.nth 0 0 la ot) (sim_class (by simp) rfl rfl rfl)
  rw [cclose_end (Nat.le_refl _)] at this
  rw [h1, h2]
  exact this
 rw [hM, hR]
 exact closedW_out' hm _ [] (.nth a b la ot) (sim_class (by simp) rfl rfl rfl)
theorem small_or {r : Rd} (v : List UInt8) : (small r v).2.uns = true ∨ (small r v).2 = r := orUns_or r _
theorem lang2_out (hj : j ≤ s.length) (v : List UInt8) : OutP s (lang2 v (St s j)) (if s.length ≤ Im.ws s j then none else match Im.cclose s (Im.ws s j) with | none => none | some j => some (some (.lang (lower v)), [], j)) := by
 have k0 : Kp s (St s j) (St s j) := Kp.refl (show j ≤ s.length + 1 by omega)
 unfold lang2
 rcases small_or (r := St s j) v with h | h
 ·exact OutP.uns (((((Kp.refl (s := s) (k0.small v).ok).spaces.orUns _).closed _ _).1).uns h)
 rw [h, cclose_ws hj]
 have := closedW_out hj (fun r => next r == 44) (⟨15, 0, [], lower v, 0, 0, 0⟩ : SelN) [] (.lang (lower v)) (sim_class (by simp) rfl rfl rfl)
 by_cases hl : s.length ≤ Im.ws s j
 ·rw [if_pos hl]
  have hc : Im.cclose s j = none := by rw [← cclose_ws hj, cclose_end hl]
  rw [hc] at this
  exact this
 rw [if_neg hl]; exact this
theorem cont2_out (hj : j ≤ s.length) (own : Bool) {kind : Nat} (hk : kind = 16 ∨ kind = 17) (v : List UInt8) : OutP s (cont2 kind v (St s j)) (if s.length ≤ Im.ws s j then none else match Im.cclose s (Im.ws s j) with | none => none | some j => some (some (.contains (lower v) own), [], j)) := by
 have k0 : Kp s (St s j) (St s j) := Kp.refl (show j ≤ s.length + 1 by omega)
 unfold cont2
 rcases small_or (r := St s j) v with h | h
 ·exact OutP.uns (((((Kp.refl (s := s) (k0.small v).ok).spaces).closed _ _).1).uns h)
 rw [h, cclose_ws hj]
 have := closedW_out' hj (⟨kind, 0, [], lower v, 0, 0, 0⟩ : SelN) [] (.contains (lower v) own) (sim_class sO rfl rfl rfl)
 by_cases hl : s.length ≤ Im.ws s j
 ·rw [if_pos hl]
  have hc : Im.cclose s j = none := by rw [← cclose_ws hj, cclose_end hl]
  rw [hc] at this
  exact this
 rw [if_neg hl]; exact this
theorem arg_lang (hr : readable s = true) (hj : j < s.length) (hb : byteAt s j = 40) : OutP s (argument grp 15 none (St s (j + 1))) (Im.pseLang s j) := by
 have k0 : Kp s (St s (j + 1)) (St s (j + 1)) := Kp.refl (show j + 1 ≤ s.length + 1 by omega)
 rw [arg_lang_eq, Im.pseLang, cparen_yes hj hb]
 simp only
 rcases spaces_ws (s := s) (i := j + 1) om with hu | ⟨he, -⟩
 ·exact OutP.uns (((((Kp.refl (s := s) k0.spaces.ok).unsureIf _).name).lang2 _).1.uns hu)
 rw [he]
 have hk := (Im.ws_le s (j + 1)).2 om
 generalize Im.ws s (j + 1) = k at hk
 have k1 : Kp s (St s k) (St s k) := Kp.refl (show k ≤ s.length + 1 by omega)
 by_cases hq : next (St s k) = 34 ∨ next (St s k) = 39 ∨ next (St s k) = 42
 ·rw [if_pos hq]
  exact OutP.uns ((((Kp.refl (s := s) k1.unsure.ok).name).lang2 _).1.uns rfl)
 rw [if_neg hq]
 have hE : k = s.length → Im.ident s k = none := fun h => ident_end om
 suffices H : OutP s (lang2 (name (St s k)).1 (name (St s k)).2) (match Im.ident s k with | none => none | some (v, j) => if s.length ≤ Im.ws s j then none else match Im.cclose s (Im.ws s j) with | none => none | some j => some (some (.lang (lower v)), [], j)) by
  by_cases h : k = s.length
  ·rw [if_pos h]; rw [hE h] at H; exact H
  rw [if_neg h]; exact H
 rcases (name_out hr hk).cases with ⟨h1, h2⟩ | ⟨v, m, hM, hR, hm⟩
 ·have k2 := (Kp.refl (s := s) k1.name.ok).lang2 (name (St s k)).1
  refine OutP.dead ?_ (k2.2 h2)
  rcases h1 with h1 | h1
  ·exact .inl (k2.1.uns h1)
  exact .inr (by rw [h1])
 rw [hM, hR]
 exact lang2_out hm v
theorem arg_cont (hr : readable s = true) (own : Bool) {kind : Nat} (hkd : kind = 16 ∨ kind = 17) (hj : j < s.length) (hb : byteAt s j = 40) : OutP s (argument grp kind none (St s (j + 1))) (Im.pseContains s own j) := by
 have k0 : Kp s (St s (j + 1)) (St s (j + 1)) := Kp.refl (show j + 1 ≤ s.length + 1 by omega)
 rw [arg_cont_eq grp hkd, Im.pseContains, cparen_yes hj hb]
 simp only
 rcases spaces_ws (s := s) (i := j + 1) om with hu | ⟨he, -⟩
 ·exact OutP.uns ((((Kp.refl (s := s) k0.spaces.ok).value).cont2 _ _).1.uns hu)
 rw [he]
 have hk := (Im.ws_le s (j + 1)).2 om
 generalize Im.ws s (j + 1) = k at hk
 have k1 : Kp s (St s k) (St s k) := Kp.refl (show k ≤ s.length + 1 by omega)
 suffices H : OutP s (cont2 kind (value (St s k)).1 (value (St s k)).2) (match Im.word s k with | none => none | some (v, j) => if s.length ≤ Im.ws s j then none else match Im.cclose s (Im.ws s j) with | none => none | some j => some (some (.contains (lower v) own), [], j)) by
  by_cases h : k = s.length
  ·rw [if_pos h]; rw [word_end om] at H; exact H
  rw [if_neg h]; exact H
 rcases (value_out hr hk).cases with ⟨h1, h2⟩ | ⟨v, m, hM, hR, hm⟩
 ·have k2 := (Kp.refl (s := s) k1.value.ok).cont2 kind (value (St s k)).1
  refine OutP.dead ?_ (k2.2 h2)
  rcases h1 with h1 | h1
  ·exact .inl (k2.1.uns h1)
  exact .inr (by rw [h1])
 rw [hM, hR]
 exact cont2_out hm own hkd v
end
def XRel (pe : Bool) (t : ST) (x : IS) : Prop := specy t = x.spec ∧ pseudoOf t.flat = x.pel ∧ (pe = false → x.pel = [])
def All2 (pe : Bool) : List ST → List IS → Prop
 | [], [] => True
 | t :: l, x :: xs => XRel pe t x ∧ All2 pe l xs
 | _, _ => False
theorem All2.snoc {pe : Bool} {t : ST} {x : IS} (h : XRel pe t x) : ∀ {l : List ST} {xs : List IS}, All2 pe l xs → All2 pe (l ++ [t]) (xs ++ [x])
 | [], [], _ => ⟨h, trivial⟩
 | [], _ :: _, k => k.elim
 | _ :: _, [], k => k.elim
 | _ :: _, _ :: _, k => ⟨k.1, All2.snoc h k.2⟩
theorem All2.max {pe : Bool} : ∀ {l : List ST} {xs : List IS} (acc : Tr), All2 pe l xs → maxL acc l = IS.specMax acc xs
 | [], [], acc, _ => by rw [maxL, IS.specMax]
 | [], _ :: _, acc, k => k.elim
 | _ :: _, [], acc, k => k.elim
 | t :: l, x :: xs, acc, k => by
  rw [maxL, IS.specMax, k.1.1]
  exact All2.max _ k.2
theorem pseudoOf_append : ∀ (a b : List (SelN × Nat)), pseudoOf a = [] → pseudoOf (a ++ b) = pseudoOf b
 | [], b, _ => rfl
 | p :: a, b, h => by
  rw [pseudoOf] at h
  rw [List.cons_append, pseudoOf]
  split at h
  ·rename_i hc; exact absurd h hc.2
  rename_i hc
  rw [if_neg hc]
  exact pseudoOf_append a b h
theorem All2.pse : ∀ {l : List ST} {xs : List IS}, All2 false l xs → pseudoOf (ST.flatL l) = []
 | [], [], _ => rfl
 | [], _ :: _, k => k.elim
 | _ :: _, [], k => k.elim
 | t :: l, x :: xs, k => by
  rw [ST.flatL, pseudoOf_append _ _ (by rw [k.1.2.1]; exact k.1.2.2 rfl)]
  exact All2.pse k.2
def GRel (pe : Bool) (t : ST) (xs : List IS) : Prop := ∃ l, t = .node (SelN.mk1 23) l ∧ All2 pe l xs
def OutG (pe : Bool) (s : List UInt8) (R : ST × Rd) (M : Option (List IS × Nat)) : Prop :=
 (R.2.uns = true ∨ M = none) ∧ Dead s R.2 ∨ ∃ xs j, M = some (xs, j) ∧ R.2 = St s j ∧ j ≤ s.length ∧ Im.ws s j = j ∧ GRel pe R.1 xs
theorem less_zero {m : Tr} : (if Tr.zero.less m = true then m else Tr.zero) = m := by
 obtain ⟨a, b, c⟩ := m
 unfold Tr.less Tr.zero
 simp only
 by_cases ha : a = 0
 ·by_cases hb : b = 0
  ·by_cases hc : c = 0
   ·subst ha hb hc; rfl
   subst ha hb; simp [Ne.symm hc]; omega
  subst ha; simp [Ne.symm hb]; omega
 simp [Ne.symm ha]; omega
theorem sim_rel {kind : Nat} (hk : kind = 18 ∨ kind = 19 ∨ kind = 20) (nm : List UInt8) {t : ST} {xs : List IS} (h : GRel false t xs) : Sim1 (.node (SelN.mk1 kind) [t]) (.rel nm xs) := by
 obtain ⟨l, rfl, h⟩ := h
 have hs : specy (.node (SelN.mk1 23) l) = maxL Tr.zero l := by
  rw [specy, if_neg dC, if_neg dC, if_neg dC, if_neg dC, if_pos dC]
 refine ⟨?_, ?_, rfl, ?_, ?_⟩
 ·rw [specy, if_neg (by simp only [SelN.mk1]; omega), if_neg (by simp only [SelN.mk1]; omega), if_neg (by simp only [SelN.mk1]; omega), if_neg (by simp only [SelN.mk1]; omega), if_pos (by simp only [SelN.mk1]; omega), maxL, maxL, hs, less_zero, All2.max _ h, IS.spec]
 ·rw [ST.flat, pseudoOf, if_neg (by simp only [SelN.mk1]; omega), ST.flatL, ST.flatL, List.append_nil, ST.flat, pseudoOf, if_neg (by simp [SelN.mk1])]
  exact All2.pse h
 ·show kind ≠ 21; omega
 show kind ≠ 22; omega
theorem cclose_at {s : List UInt8} {m : Nat} {y : IS} (h : Im.ws s m = m) : (match Im.cclose s m with | none => none | some j => some (some y, [], j)) = (if m < s.length ∧ byteAt s m = 41 then some (some y, [], m + 1) else (none : Im.PseRes)) := by
 unfold Im.cclose
 rw [h]
 by_cases hc : m < s.length ∧ byteAt s m = 41
 ·rw [if_pos hc, if_pos hc]
 rw [if_neg hc, if_neg hc]
section
variable (grp : Rd → ST × Rd) (G : Nat → Option (List IS × Nat)) {s : List UInt8} {lo j : Nat}
theorem arg_rel (hk : ∀ r, Ok r → Kp s r (grp r).2) (hg : ∀ k, lo ≤ k → k ≤ s.length → OutG false s (grp (St s k)) (G k)) (hlo : lo ≤ j + 1) {kind : Nat} (hkd : kind = 18 ∨ kind = 19 ∨ kind = 20) (nm : List UInt8) (hj : j < s.length) (hb : byteAt s j = 40) : OutP s (argument grp kind none (St s (j + 1))) (Im.pseRel s G nm j) := by
 have k0 : Kp s (St s (j + 1)) (St s (j + 1)) := Kp.refl (show j + 1 ≤ s.length + 1 by omega)
 rw [arg_rel_eq grp hkd, Im.pseRel, cparen_yes hj hb]
 simp only
 rcases spaces_ws (s := s) (i := j + 1) om with hu | ⟨he, -⟩
 ·have k1 := (Kp.refl (s := s) k0.spaces.ok).unsureIf (next (spaces (St s (j + 1))).2 = 62 ∨ next (spaces (St s (j + 1))).2 = 43 ∨ next (spaces (St s (j + 1))).2 = 126)
  exact OutP.uns (((k1.trans (hk _ k1.ok)).closed _ _).1.uns hu)
 rw [he]
 have hk1 := (Im.ws_le s (j + 1)).2 om
 have hk2 := (Im.ws_le s (j + 1)).1
 generalize Im.ws s (j + 1) = k at hk1 hk2
 have k1 : Kp s (St s k) (St s k) := Kp.refl (show k ≤ s.length + 1 by omega)
 by_cases hq : next (St s k) = 62 ∨ next (St s k) = 43 ∨ next (St s k) = 126
 ·rw [if_pos hq]
  exact OutP.uns ((hk _ k1.unsure.ok).closed (SelN.mk1 kind) _ |>.1.uns rfl)
 rw [if_neg hq]
 have k2 := hk _ k1.ok
 rcases hg k om hk1 with ⟨h1, h2⟩ | ⟨xs, m, hM, hR, hm, hw, hrel⟩
 ·have k3 := (Kp.refl (s := s) k2.ok).closed (SelN.mk1 kind) [(grp (St s k)).1]
  refine OutP.dead ?_ (k3.2 h2)
  rcases h1 with h1 | h1
  ·exact .inl (k3.1.uns h1)
  exact .inr (by rw [h1])
 have := closed_out (s := s) (k := m) (SelN.mk1 kind) [(grp (St s k)).1] (.rel nm xs) (sim_rel hkd nm hrel)
 rw [hM, hR]
 rw [← cclose_at hw] at this
 exact this
def ps2 (nm : List UInt8) (r : Rd) : ST × Rd :=
 if r.bad then fail r else
 match plain nm with
 | some x => if next r = 40 then fail r.unsure else (ST.node x [], r)
 | none =>
  if isOpen nm then fail r.unsure else
   if nthFlag nm = none ∧ kindOf nm = 0 then fail r else
    if (taken r [40]).1 then argument grp (kindOf nm) (nthFlag nm) (taken r [40]).2 else fail (taken r [40]).2
theorem pseudo_eq (r : Rd) : pseudo grp r = ps2 grp (lower (name r).1) (name r).2 := rfl
theorem kind_is {nm : List UInt8} (h : kindOf nm ≠ 0) : kindOf nm = 15 ∨ kindOf nm = 16 ∨ kindOf nm = 17 ∨ kindOf nm = 18 ∨ kindOf nm = 19 ∨ kindOf nm = 20 := by
 have e : kindOf nm = if nm = [110, 111, 116] then 18 else if nm = [104, 97, 115] then 19 else if nm = [104, 97, 115, 99, 104, 105, 108, 100] then 20 else if nm = [99, 111, 110, 116, 97, 105, 110, 115] then 16 else if nm = [99, 111, 110, 116, 97, 105, 110, 115, 111, 119, 110] then 17 else if nm = [108, 97, 110, 103] then 15 else 0 := rfl
 by_cases c1 : nm = [110, 111, 116]
 ·rw [e, if_pos c1]; decide
 by_cases c2 : nm = [104, 97, 115]
 ·rw [e, if_neg c1, if_pos c2]; decide
 by_cases c3 : nm = [104, 97, 115, 99, 104, 105, 108, 100]
 ·rw [e, if_neg c1, if_neg c2, if_pos c3]; decide
 by_cases c4 : nm = [99, 111, 110, 116, 97, 105, 110, 115]
 ·rw [e, if_neg c1, if_neg c2, if_neg c3, if_pos c4]; decide
 by_cases c5 : nm = [99, 111, 110, 116, 97, 105, 110, 115, 111, 119, 110]
 ·rw [e, if_neg c1, if_neg c2, if_neg c3, if_neg c4, if_pos c5]; decide
 by_cases c6 : nm = [108, 97, 110, 103]
 ·rw [e, if_neg c1, if_neg c2, if_neg c3, if_neg c4, if_neg c5, if_pos c6]; decide
 rw [e, if_neg c1, if_neg c2, if_neg c3, if_neg c4, if_neg c5, if_neg c6] at h
 exact absurd rfl h
theorem ps2_kp (hk : ∀ r, Ok r → Kp s r (grp r).2) {a b : Rd} (h : Kp s a b) (nm : List UInt8) : Kp s a (ps2 grp nm b).2 := by
 refine h.trans ?_
 have h0 : Kp s b b := Kp.refl h.ok
 unfold ps2
 split
 ·exact h0.fail
 split
 ·split
  ·exact h0.unsure.fail
  exact h0
 split
 ·exact h0.unsure.fail
 split
 ·exact h0.fail
 rename_i hn
 split
 ·refine argument_kp grp hk (h0.taken 40 [] dC) fun hf => ?_
  exact kind_is fun h0 => hn ⟨hf, h0⟩
 exact (h0.taken 40 [] dC).fail
theorem plain_named {nm : List UInt8} {x : SelN} (h : plain nm = some x) (j : Nat) : ∃ y, Im.pseNamed s G nm j = some (some y, [], j) ∧ Sim1 (.node x []) y := by
 unfold plain at h
 have go : ∀ (y : IS) (x' : SelN), some x' = some x → Im.pseNamed s G nm j = some (some y, [], j) → (x'.kind ≠ 1 ∧ x'.kind ≠ 2 ∧ x'.kind ≠ 4 ∧ x'.kind ≠ 18 ∧ x'.kind ≠ 19 ∧ x'.kind ≠ 20 ∧ x'.kind ≠ 21 ∧ x'.kind ≠ 22 ∧ x'.kind ≠ 23) → y.spec = ⟨0, 1, 0⟩ → y.pel = [] → ∃ y, Im.pseNamed s G nm j = some (some y, [], j) ∧ Sim1 (.node x []) y := fun y x' e h1 h2 h3 h4 => by
  simp only [Option.some.injEq] at e
  subst e
  exact ⟨y, h1, sim_class h2 rfl h3 h4⟩
 by_cases hn : nm = [102, 105, 114, 115, 116, 45, 99, 104, 105, 108, 100]
 ·rw [if_pos hn] at h; exact go (.nth 0 1 false false) _ h (by rw [hn]; rfl) dC rfl rfl
 rw [if_neg hn] at h; clear hn
 by_cases hn : nm = [108, 97, 115, 116, 45, 99, 104, 105, 108, 100]
 ·rw [if_pos hn] at h; exact go (.nth 0 1 true false) _ h (by rw [hn]; rfl) dC rfl rfl
 rw [if_neg hn] at h; clear hn
 by_cases hn : nm = [102, 105, 114, 115, 116, 45, 111, 102, 45, 116, 121, 112, 101]
 ·rw [if_pos hn] at h; exact go (.nth 0 1 false true) _ h (by rw [hn]; rfl) dC rfl rfl
 rw [if_neg hn] at h; clear hn
 by_cases hn : nm = [108, 97, 115, 116, 45, 111, 102, 45, 116, 121, 112, 101]
 ·rw [if_pos hn] at h; exact go (.nth 0 1 true true) _ h (by rw [hn]; rfl) dC rfl rfl
 rw [if_neg hn] at h; clear hn
 by_cases hn : nm = [111, 110, 108, 121, 45, 99, 104, 105, 108, 100]
 ·rw [if_pos hn] at h; exact go (.only false) _ h (by rw [hn]; rfl) dC rfl rfl
 rw [if_neg hn] at h; clear hn
 by_cases hn : nm = [111, 110, 108, 121, 45, 111, 102, 45, 116, 121, 112, 101]
 ·rw [if_pos hn] at h; exact go (.only true) _ h (by rw [hn]; rfl) dC rfl rfl
 rw [if_neg hn] at h; clear hn
 by_cases hn : nm = [101, 109, 112, 116, 121]
 ·rw [if_pos hn] at h; exact go (.flat 127) _ h (by rw [hn]; rfl) dC rfl rfl
 rw [if_neg hn] at h; clear hn
 by_cases hn : nm = [114, 111, 111, 116]
 ·rw [if_pos hn] at h; exact go (.flat 128) _ h (by rw [hn]; rfl) dC rfl rfl
 rw [if_neg hn] at h; clear hn
 by_cases hn : nm = [105, 110, 112, 117, 116]
 ·rw [if_pos hn] at h; exact go (.flat 126) _ h (by rw [hn]; rfl) dC rfl rfl
 rw [if_neg hn] at h; clear hn
 by_cases hn : nm = [108, 105, 110, 107]
 ·rw [if_pos hn] at h; exact go (.flat 129) _ h (by rw [hn]; rfl) dC rfl rfl
 rw [if_neg hn] at h; clear hn
 by_cases hn : nm = [101, 110, 97, 98, 108, 101, 100]
 ·rw [if_pos hn] at h; exact go (.flat 132) _ h (by rw [hn]; rfl) dC rfl rfl
 rw [if_neg hn] at h; clear hn
 by_cases hn : nm = [100, 105, 115, 97, 98, 108, 101, 100]
 ·rw [if_pos hn] at h; exact go (.flat 133) _ h (by rw [hn]; rfl) dC rfl rfl
 rw [if_neg hn] at h; clear hn
 by_cases hn : nm = [99, 104, 101, 99, 107, 101, 100]
 ·rw [if_pos hn] at h; exact go (.flat 134) _ h (by rw [hn]; rfl) dC rfl rfl
 rw [if_neg hn] at h; clear hn
 cases h
theorem named_none {nm : List UInt8} (h1 : (plain nm).isSome = false) (h2 : isOpen nm = false) (h3 : (nthFlag nm).isSome = false) (h4 : kindOf nm = 0) (j : Nat) : Im.pseNamed s G nm j = none := by
 unfold Im.pseNamed
 rw [if_neg (by rintro (rfl | rfl | rfl) <;> exact absurd h4 dC), if_neg (by rintro (rfl | rfl) <;> exact absurd h4 dC), if_neg (by rintro (rfl | rfl | rfl | rfl) <;> exact absurd h3 dC)]
 have e1 : Im.simpleOf nm = none := by
  unfold Im.simpleOf
  (repeat' split) <;> first | rfl | (rename_i hn; rw [hn] at h1; exact absurd h1 dC)
 rw [e1]
 simp only
 rw [if_neg (by rintro rfl; exact absurd h4 dC)]
 have e2 : Im.simpleOf2 nm = none := by
  unfold Im.simpleOf2
  split
  ·rename_i hn; rw [hn] at h1; exact absurd h1 dC
  split
  ·rename_i hn; rw [hn] at h1; exact absurd h1 dC
  split
  ·rename_i hn; rw [hn] at h1; exact absurd h1 dC
  rw [if_neg]
  intro hc
  rw [List.contains_iff_mem] at hc
  simp only [Im.nevers, List.mem_cons, List.not_mem_nil, or_false] at hc
  rcases hc with rfl | rfl | rfl | rfl | rfl <;> exact absurd h2 dC
 rw [e2]
 simp only
 rw [if_neg]
 intro hc
 rw [List.contains_iff_mem] at hc
 simp only [Im.elements, List.mem_cons, List.not_mem_nil, or_false] at hc
 rcases hc with rfl | rfl | rfl | rfl | rfl | rfl | rfl | rfl | rfl | rfl | rfl <;> exact absurd h2 dC
theorem cparen_no (h : ¬ (j < s.length ∧ byteAt s j = 40)) : Im.cparen s j = none := by rw [Im.cparen, if_neg h]
theorem ps2_out (hr : readable s = true) (hk : ∀ r, Ok r → Kp s r (grp r).2) (hg : ∀ k, lo ≤ k → k ≤ s.length → OutG false s (grp (St s k)) (G k)) (hlo : lo ≤ j + 1) (hj : j ≤ s.length) (nm : List UInt8) : OutP s (ps2 grp nm (St s j)) (Im.pseNamed s G nm j) := by
 have bad : ∀ {M : Im.PseRes}, M = none → OutP s (fail (St s j)) M := fun h => .inl ⟨.inr h, .inr ⟨rfl, rfl, rfl, .inl rfl⟩⟩
 unfold ps2
 rw [if_neg (show ¬ (St s j).bad = true by simp [St])]
 cases hp : plain nm with
 | some x =>
  simp only
  split
  ·exact OutP.uns rfl
  obtain ⟨y, h1, h2⟩ := plain_named G (s := s) hp j
  rw [h1]
  exact .inr ⟨y, j, rfl, rfl, hj, h2⟩
 | none =>
  simp only
  split
  ·exact OutP.uns rfl
  rename_i ho
  have hp' : (plain nm).isSome = false := by rw [hp]; rfl
  have ho' : isOpen nm = false := by simpa using ho
  split
  ·rename_i hn
   exact bad (named_none G hp' ho' (by rw [hn.1]; rfl) hn.2 j)
  rename_i hn
  rw [taken1]
  by_cases hb : j < s.length ∧ byteAt s j = 40
  ·rw [if_pos (show j < s.length ∧ byteAt s j = (40 : UInt8).toNat from hb)]
   simp only [if_true]
   cases hf : nthFlag nm with
   | some fl =>
    unfold nthFlag at hf
    split at hf
    ·rename_i e
     rw [show Im.pseNamed s G nm j = Im.pseNth s false false j by rw [e]; rfl]
     exact arg_nth grp _ _ _ _ hb.1 hb.2
    split at hf
    ·rename_i e
     rw [show Im.pseNamed s G nm j = Im.pseNth s true false j by rw [e]; rfl]
     exact arg_nth grp _ _ _ _ hb.1 hb.2
    split at hf
    ·rename_i e
     rw [show Im.pseNamed s G nm j = Im.pseNth s false true j by rw [e]; rfl]
     exact arg_nth grp _ _ _ _ hb.1 hb.2
    split at hf
    ·rename_i e
     rw [show Im.pseNamed s G nm j = Im.pseNth s true true j by rw [e]; rfl]
     exact arg_nth grp _ _ _ _ hb.1 hb.2
    cases hf
   | none =>
    have hkk : kindOf nm ≠ 0 := fun h => hn ⟨hf, h⟩
    unfold kindOf at hkk ⊢
    split
    ·rename_i e
     rw [show Im.pseNamed s G nm j = Im.pseRel s G nm j by rw [e]; rfl]
     exact arg_rel grp G hk hg hlo dC nm hb.1 hb.2
    split
    ·rename_i e
     rw [show Im.pseNamed s G nm j = Im.pseRel s G nm j by rw [e]; rfl]
     exact arg_rel grp G hk hg hlo dC nm hb.1 hb.2
    split
    ·rename_i e
     rw [show Im.pseNamed s G nm j = Im.pseRel s G nm j by rw [e]; rfl]
     exact arg_rel grp G hk hg hlo dC nm hb.1 hb.2
    split
    ·rename_i e
     rw [show Im.pseNamed s G nm j = Im.pseContains s false j by rw [e]; rfl]
     exact arg_cont grp hr false dC hb.1 hb.2
    split
    ·rename_i e
     rw [show Im.pseNamed s G nm j = Im.pseContains s true j by rw [e]; rfl]
     exact arg_cont grp hr true dC hb.1 hb.2
    split
    ·rename_i e
     rw [show Im.pseNamed s G nm j = Im.pseLang s j by rw [e]; rfl]
     exact arg_lang grp hr hb.1 hb.2
    rename_i e1 e2 e3 e4 e5 e6
    rw [if_neg e1, if_neg e2, if_neg e3, if_neg e4, if_neg e5, if_neg e6] at hkk
    exact absurd rfl hkk
  rw [if_neg (show ¬ (j < s.length ∧ byteAt s j = (40 : UInt8).toNat) from hb)]
  simp only [Bool.false_eq_true, if_false]
  refine bad ?_
  have hc := cparen_no hb
  have r1 : ∀ nm, Im.pseRel s G nm j = none := fun nm => by rw [Im.pseRel, hc]
  have r2 : ∀ o, Im.pseContains s o j = none := fun o => by rw [Im.pseContains, hc]
  have r3 : Im.pseLang s j = none := by rw [Im.pseLang, hc]
  have r4 : ∀ a b, Im.pseNth s a b j = none := fun a b => by rw [Im.pseNth, hc]
  cases hf : nthFlag nm with
  | some fl =>
   unfold nthFlag at hf
   split at hf
   ·rename_i e; rw [e]; exact r4 false false
   split at hf
   ·rename_i e; rw [e]; exact r4 true false
   split at hf
   ·rename_i e; rw [e]; exact r4 false true
   split at hf
   ·rename_i e; rw [e]; exact r4 true true
   cases hf
  | none =>
   have hkk : kindOf nm ≠ 0 := fun h => hn ⟨hf, h⟩
   unfold kindOf at hkk
   split at hkk
   ·rename_i e; rw [e]; exact r1 _
   split at hkk
   ·rename_i e; rw [e]; exact r1 _
   split at hkk
   ·rename_i e; rw [e]; exact r1 _
   split at hkk
   ·rename_i e; rw [e]; exact r2 false
   split at hkk
   ·rename_i e; rw [e]; exact r2 true
   split at hkk
   ·rename_i e; rw [e]; exact r3
   exact absurd rfl hkk
theorem pseudo_out (hr : readable s = true) (hk : ∀ r, Ok r → Kp s r (grp r).2) (hg : ∀ k, lo ≤ k → k ≤ s.length → OutG false s (grp (St s k)) (G k)) (hlo : lo ≤ j) (hj : j ≤ s.length) : OutP s (pseudo grp (St s j)) (match Im.ident s j with | none => none | some (nm, j) => Im.pseNamed s G (lower nm) j) := by
 rw [pseudo_eq]
 have k0 : Kp s (St s j) (St s j) := Kp.refl (show j ≤ s.length + 1 by omega)
 rcases (name_out hr hj).cases with ⟨h1, h2⟩ | ⟨v, m, hM, hR, hm⟩
 ·have k1 := ps2_kp grp hk (Kp.refl (s := s) k0.name.ok) (lower (name (St s j)).1)
  refine OutP.dead ?_ (k1.2 h2)
  rcases h1 with h1 | h1
  ·exact .inl (k1.1.uns h1)
  exact .inr (by rw [h1])
 have := k0.name.1.pos
 rw [hR] at this
 have hjm : j ≤ m := this
 rw [hM, hR]
 exact ps2_out grp G hr hk hg om hm (lower v)
def OutE (s : List UInt8) (R : List UInt8 × Rd) (M : Im.PseRes) : Prop :=
 (R.2.uns = true ∨ M = none) ∧ Dead s R.2 ∨ ∃ nm j, M = some (none, nm, j) ∧ R = (nm, St s j) ∧ nm ≠ [] ∧ j ≤ s.length
theorem Kp.element {a b : Rd} (h : Kp s a b) : Kp s a (Sp.element b).2 := by
 have := (h.name.unsureIf (¬ elements.contains (lower (Sp.name b).1) = true)).orUns (next (if elements.contains (lower (Sp.name b).1) = true then (Sp.name b).2 else (Sp.name b).2.unsure) == 40)
 rw [ite_not] at this
 exact this
theorem element_out (hr : readable s = true) (hj : j ≤ s.length) : OutE s (element (St s j)) (match Im.ident s j with | none => none | some (nm, j) => if !(Im.elements.contains (lower nm)) then none else Im.pseNamed s G (lower nm) j) := by
 have k0 : Kp s (St s j) (St s j) := Kp.refl (show j ≤ s.length + 1 by omega)
 have eE : element (St s j) = (lower (name (St s j)).1, (if elements.contains (lower (name (St s j)).1) = true then (name (St s j)).2 else (name (St s j)).2.unsure).orUns (next (if elements.contains (lower (name (St s j)).1) = true then (name (St s j)).2 else (name (St s j)).2.unsure) == 40)) := rfl
 rcases (name_out hr hj).cases with ⟨h1, h2⟩ | ⟨v, m, hM, hR, hm⟩
 ·rw [eE]
  have k1 : Kp s (name (St s j)).2 (name (St s j)).2 := Kp.refl k0.name.ok
  have k2 := (k1.unsureIf (¬ elements.contains (lower (name (St s j)).1) = true)).orUns (next (if elements.contains (lower (name (St s j)).1) = true then (name (St s j)).2 else (name (St s j)).2.unsure) == 40)
  rw [ite_not] at k2
  refine .inl ⟨?_, k2.2 h2⟩
  rcases h1 with h1 | h1
  ·exact .inl (k2.1.uns h1)
  exact .inr (by rw [h1])
 rw [eE, hM, hR]
 simp only
 by_cases hc : elements.contains (lower v) = true
 ·rw [if_pos hc]
  rcases orUns_or (St s m) (next (St s m) == 40) with h | h
  ·exact .inl ⟨.inl h, .inl h⟩
  rw [h]
  have hc2 := hc
  rw [List.contains_iff_mem] at hc2
  simp only [elements, List.mem_cons, List.not_mem_nil, or_false] at hc2
  have key : (if !(Im.elements.contains (lower v)) then none else Im.pseNamed s G (lower v) m) = some (none, lower v, m) ∧ lower v ≠ [] := by
   rcases hc2 with e | e | e | e <;> rw [e] <;> exact ⟨rfl, by simp⟩
  exact .inr ⟨_, m, key.1, rfl, key.2, hm⟩
 rw [if_neg hc]
 exact .inl ⟨.inl rfl, .inl rfl⟩
end
section
variable {s : List UInt8} {a b : Rd}
theorem Kp.adv (h : Kp s a b) (hn : next b ≠ 92) (hp : b.pos < b.s.length) : Kp s a (b.adv 1) :=
 h.trans ⟨le_adv om, fun d => d.step (le_adv om) fun i e hs => absurd (by rw [e, next_byte]; exact hs.2.1) hn⟩
theorem Kp.nameFollows (h : Kp s a b) : Kp s a (Sp.nameFollows b).2 :=
 h.trans ⟨nameFollows_le _ h.ok, fun d => d.step (nameFollows_le _ h.ok) fun i e hs => by
  rw [e, nf_other (fun hh => by have := hs.2.1; omega)]
  exact Dead.of_stuck hs⟩
theorem Kp.hash (h : Kp s a b) : Kp s a (Sp.hash b).2 :=
 h.trans ⟨(hash_le _ h.ok).1, fun d => d.step (hash_le _ h.ok).1 fun i e hs => by
  subst e
  have hb : (decide (i < s.length) && beginByte (byteAt s i) || escapeFollows (St s i) i) = false := by
   rw [hs.2.2, hs.2.1, show beginByte 92 = false from rfl]; simp
  unfold Sp.hash
  rw [nf_other (fun hh => by have := hs.2.1; omega), hb]
  simp only
  rw [next_byte, hs.2.1]
  exact .inr ⟨rfl, rfl, rfl, .inl rfl⟩⟩
theorem Kp.attrib (h : Kp s a b) : Kp s a (Sp.attrib b).2 := by
 have k := h.spaces.name
 rw [attrib_eq]
 exact k.trans (aT1_dead _ k.ok)
end
section
variable (grp : Rd → ST × Rd) (G : Nat → Option (List IS × Nat)) {s : List UInt8} {lo i j : Nat}
theorem Kp.pseudo (hk : ∀ r, Ok r → Kp s r (grp r).2) {a b : Rd} (h : Kp s a b) : Kp s a (Sp.pseudo grp b).2 := by
 rw [pseudo_eq]
 exact ps2_kp grp hk h.name _
theorem simple_kp (hk : ∀ r, Ok r → Kp s r (grp r).2) {r : Rd} (hok : Ok r) : Kp s r (simple grp r).2.2.2 := by
 have h0 : Kp s r r := Kp.refl hok
 unfold simple
 simp only
 split
 ·rename_i hc
  exact (h0.adv om (next_pos om)).name
 split
 ·rename_i hc
  exact (h0.adv om (next_pos om)).hash
 split
 ·rename_i hc
  exact (h0.adv om (next_pos om)).attrib
 split
 ·rename_i hc
  have h1 := (h0.adv om (next_pos om)).taken 58 [] dC
  split
  ·exact h1.element
  exact Kp.pseudo grp hk h1
 exact h0
def OutS (s : List UInt8) (i : Nat) (R : List ST × List UInt8 × Bool × Rd) (M : Option Im.PseRes) : Prop :=
 (M = none ∧ R = ([], [], false, St s i)) ∨ (R.2.2.1 = true ∧ i < s.length ∧ ∃ m, M = some m ∧ (((R.2.2.2.uns = true ∨ m = none) ∧ Dead s R.2.2.2) ∨ (∃ x j t, m = some (some x, [], j) ∧ R = ([t], [], true, St s j) ∧ j ≤ s.length ∧ Sim1 t x) ∨ ∃ nm j, m = some (none, nm, j) ∧ R = ([], nm, true, St s j) ∧ nm ≠ [] ∧ j ≤ s.length))
theorem sim_id (x : SelN) (hx : x.kind = 4) (v : List UInt8) : Sim1 (.node x []) (.idt v) := by
 refine ⟨?_, ?_, rfl, ?_, ?_⟩
 ·rw [specy, if_neg om, if_neg om, if_pos hx, IS.spec]
 ·rw [ST.flat, pseudoOf, if_neg sO]; rfl
 ·show x.kind ≠ 21; omega
 show x.kind ≠ 22; omega
theorem byte_lt {c : Nat} (h : byteAt s i = c) (hc : c ≠ 0) : i < s.length := by
 by_cases h1 : i < s.length
 ·exact h1
 rw [byteAt_end h1] at h; omega
theorem simple_out (hr : readable s = true) (hk : ∀ r, Ok r → Kp s r (grp r).2) (hg : ∀ k, lo ≤ k → k ≤ s.length → OutG false s (grp (St s k)) (G k)) (hlo : lo ≤ i + 1) (hi : i ≤ s.length) : OutS s i (simple grp (St s i)) (Im.simple s G i) := by
 have hN := next_byte s i
 by_cases h46 : byteAt s i = 46
 ·have hl := byte_lt h46 om
  have e1 : simple grp (St s i) = ([ST.node ⟨3, 0, [], (name (St s (i + 1))).1, 0, 0, 0⟩ []], [], true, (name (St s (i + 1))).2) := by
   unfold simple; simp only; rw [hN, if_pos h46]; rfl
  have e2 : Im.simple s G i = some (match Im.ident s (i + 1) with | none => none | some (v, j) => some (some (.cls v), [], j)) := by
   unfold Im.simple; rw [if_neg om, if_pos h46]; rfl
  rw [e1, e2]
  refine .inr ⟨rfl, hl, _, rfl, ?_⟩
  rcases (name_out (i := i + 1) hr om).cases with ⟨h1, h2⟩ | ⟨v, m, hM, hR, hm⟩
  ·refine .inl ⟨?_, h2⟩
   rcases h1 with h1 | h1
   ·exact .inl h1
   exact .inr (by rw [h1])
  rw [hM, hR]
  exact .inr (.inl ⟨.cls v, m, _, rfl, rfl, hm, sim_class (by simp) rfl rfl rfl⟩)
 by_cases h35 : byteAt s i = 35
 ·have hl := byte_lt h35 om
  have e1 : simple grp (St s i) = ([ST.node ⟨4, 0, [], (Sp.hash (St s (i + 1))).1, 0, 0, 0⟩ []], [], true, (Sp.hash (St s (i + 1))).2) := by
   unfold simple; simp only; rw [hN, if_neg h46, if_pos h35]; rfl
  have e2 : Im.simple s G i = some (match Im.name s (i + 1) with | none => none | some (v, j) => some (some (.idt v), [], j)) := by
   unfold Im.simple; rw [if_pos h35]; rfl
  rw [e1, e2]
  refine .inr ⟨rfl, hl, _, rfl, ?_⟩
  rcases (hash_out (i := i + 1) hr om).cases with ⟨h1, h2⟩ | ⟨v, m, hM, hR, hm⟩
  ·refine .inl ⟨?_, h2⟩
   rcases h1 with h1 | h1
   ·exact .inl h1
   exact .inr (by rw [h1])
  rw [hM, hR]
  exact .inr (.inl ⟨.idt v, m, _, rfl, rfl, hm, sim_id _ rfl _⟩)
 by_cases h91 : byteAt s i = 91
 ·have hl := byte_lt h91 om
  have e1 : simple grp (St s i) = ([(attrib (St s (i + 1))).1], [], true, (attrib (St s (i + 1))).2) := by
   unfold simple; simp only; rw [hN, if_neg h46, if_neg h35, if_pos h91]; rfl
  have e2 : Im.simple s G i = some (match Im.attr s i with | none => none | some (x, j) => some (some x, [], j)) := by
   unfold Im.simple; rw [if_neg h35, if_neg h46, if_pos h91]; rfl
  rw [e1, e2]
  refine .inr ⟨rfl, hl, _, rfl, ?_⟩
  rcases attrib_out hr hl with ⟨h1, h2⟩ | ⟨x, m, hM, hR, hm, hS⟩
  ·refine .inl ⟨?_, h2⟩
   rcases h1 with h1 | h1
   ·exact .inl h1
   exact .inr (by rw [h1])
  rw [hM, hR]
  exact .inr (.inl ⟨x, m, _, rfl, rfl, hm, hS⟩)
 by_cases h58 : byteAt s i = 58
 ·have hl := byte_lt h58 om
  have e2 : Im.simple s G i = some (Im.pse s G i) := by
   unfold Im.simple; rw [if_neg h35, if_neg h46, if_neg h91, if_pos h58]
  have e0 : simple grp (St s i) = if (taken (St s (i + 1)) [58]).1 = true then ([], (element (taken (St s (i + 1)) [58]).2).1, true, (element (taken (St s (i + 1)) [58]).2).2) else ([(pseudo grp (taken (St s (i + 1)) [58]).2).1], [], true, (pseudo grp (taken (St s (i + 1)) [58]).2).2) := by
   unfold simple; simp only; rw [hN, if_neg h46, if_neg h35, if_neg h91, if_pos h58]; rfl
  rw [e0, e2, taken1]
  by_cases h2 : i + 1 < s.length ∧ byteAt s (i + 1) = 58
  ·rw [if_pos (show i + 1 < s.length ∧ byteAt s (i + 1) = (58 : UInt8).toNat from h2)]
   simp only [if_true]
   refine .inr ⟨rfl, hl, _, rfl, ?_⟩
   have hM : Im.pse s G i = (match Im.ident s (i + 2) with | none => none | some (nm, j) => if !(Im.elements.contains (lower nm)) then none else Im.pseNamed s G (lower nm) j) := by
    unfold Im.pse
    rw [if_neg om]
    simp only [h2.2, decide_true, if_true, Bool.true_and]
    rfl
   rw [hM]
   rcases element_out G hr (show i + 2 ≤ s.length by omega) with h | ⟨nm, m, hM, hR, hne, hm⟩
   ·exact .inl h
   rw [show i + 1 + 1 = i + 2 from rfl, hR]
   exact .inr (.inr ⟨nm, m, hM, rfl, hne, hm⟩)
  rw [if_neg (show ¬ (i + 1 < s.length ∧ byteAt s (i + 1) = (58 : UInt8).toNat) from h2)]
  simp only [Bool.false_eq_true, if_false]
  refine .inr ⟨rfl, hl, _, rfl, ?_⟩
  have hM : Im.pse s G i = (match Im.ident s (i + 1) with | none => none | some (nm, j) => Im.pseNamed s G (lower nm) j) := by
   unfold Im.pse
   by_cases hl2 : s.length ≤ i + 1
   ·rw [if_pos hl2, ident_end hl2]
   rw [if_neg hl2]
   have : ¬ byteAt s (i + 1) = 58 := fun hh => h2 ⟨om, hh⟩
   simp only [this, decide_false, Bool.false_eq_true, if_false, Bool.false_and]
   rfl
  rw [hM]
  rcases pseudo_out grp G hr hk hg (show lo ≤ i + 1 by omega) (show i + 1 ≤ s.length by omega) with h | ⟨x, m, hM, hR, hm, hS⟩
  ·exact .inl h
  rw [hR]
  exact .inr (.inl ⟨x, m, _, hM, rfl, hm, hS⟩)
 left
 constructor
 ·unfold Im.simple; rw [if_neg h35, if_neg h46, if_neg h91, if_neg h58]
 unfold simple; simp only; rw [hN, if_neg h46, if_neg h35, if_neg h91, if_neg h58]
def rdOf : (ST × Rd) ⊕ (List ST × List UInt8 × Nat × Rd) → Rd
 | .inl x => x.2
 | .inr y => y.2.2.2
def cg2 (pe : Bool) (k : Nat) (l : List ST) (v : List UInt8) (many : Nat) (one : List ST) (what : List UInt8) (r : Rd) : (ST × Rd) ⊕ (List ST × List UInt8 × Nat × Rd) :=
 if ¬ what = [] then
  if pe = false then .inl (fail (r.orUns r.ps))
  else if ¬ v = [] then .inl (fail r.unsure)
  else compoundGo grp pe k l what (many + 1) r
 else compoundGo grp pe k (l ++ one) v (many + 1) (if v = [] then r else r.unsure)
theorem cg_eq (pe : Bool) (k : Nat) (l : List ST) (v : List UInt8) (many : Nat) (r : Rd) : compoundGo grp pe (k + 1) l v many r = if r.bad = false ∧ r.pos < r.s.length then (if (simple grp r).2.2.1 = false then .inr (l, v, many, (simple grp r).2.2.2) else cg2 grp pe k l v many (simple grp r).1 (simple grp r).2.1 (simple grp r).2.2.2) else .inr (l, v, many, r) := by
 rw [compoundGo]
 rfl
theorem cg_kp (hk : ∀ r, Ok r → Kp s r (grp r).2) (pe : Bool) : ∀ (k : Nat) (l : List ST) (v : List UInt8) (many : Nat) (r : Rd), Ok r → Kp s r (rdOf (compoundGo grp pe k l v many r))
 | 0, l, v, many, r, h => Kp.refl h
 | k + 1, l, v, many, r, h => by
  rw [cg_eq]
  have h1 := simple_kp grp hk h
  split
  ·split
   ·exact h1
   unfold cg2
   split
   ·split
    ·exact (h1.orUns _).fail
    split
    ·exact h1.unsure.fail
    exact h1.trans (cg_kp hk pe k _ _ _ _ h1.ok)
   have h2 : Kp s r (if v = [] then (simple grp r).2.2.2 else (simple grp r).2.2.2.unsure) := by
    split
    ·exact h1
    exact h1.unsure
   exact h2.trans (cg_kp hk pe k _ _ _ _ h2.ok)
  exact Kp.refl h
theorem cg2_kp (hk : ∀ r, Ok r → Kp s r (grp r).2) (pe : Bool) (k : Nat) (l : List ST) (v : List UInt8) (many : Nat) (one : List ST) (what : List UInt8) {r : Rd} (h : Ok r) : Kp s r (rdOf (cg2 grp pe k l v many one what r)) := by
 have h1 : Kp s r r := Kp.refl h
 unfold cg2
 split
 ·split
  ·exact (h1.orUns _).fail
  split
  ·exact h1.unsure.fail
  exact cg_kp grp hk pe k _ _ _ _ h
 have h2 : Kp s r (if v = [] then r else r.unsure) := by
  split
  ·exact h1
  exact h1.unsure
 exact h2.trans (cg_kp grp hk pe k _ _ _ _ h2.ok)
def All1 : List ST → List IS → Prop
 | [], [] => True
 | t :: l, x :: xs => Sim1 t x ∧ All1 l xs
 | _, _ => False
theorem All1.snoc {t : ST} {x : IS} (h : Sim1 t x) : ∀ {l : List ST} {xs : List IS}, All1 l xs → All1 (l ++ [t]) (xs ++ [x])
 | [], [], _ => ⟨h, trivial⟩
 | [], _ :: _, k => k.elim
 | _ :: _, [], k => k.elim
 | _ :: _, _ :: _, k => ⟨k.1, All1.snoc h k.2⟩
def OutQ (pe : Bool) (s : List UInt8) (many i : Nat) (R : (ST × Rd) ⊕ (List ST × List UInt8 × Nat × Rd)) (M : Option (List IS × List UInt8 × Nat)) : Prop :=
 ((rdOf R).uns = true ∨ M = none) ∧ Dead s (rdOf R) ∨ ∃ l' v' many' j xs', R = .inr (l', v', many', St s j) ∧ M = some (xs', v', j) ∧ j ≤ s.length ∧ All1 l' xs' ∧ (pe = false → v' = []) ∧ many ≤ many' ∧ (i < s.length → Im.simple s G i ≠ none → many < many')
theorem cg_out (hr : readable s = true) (hk : ∀ r, Ok r → Kp s r (grp r).2) (hG : Im.GrpW s G lo) (hg : ∀ k, lo ≤ k → k ≤ s.length → OutG false s (grp (St s k)) (G k)) (pe : Bool) : ∀ (k : Nat) (l : List ST) (xs : List IS) (v : List UInt8) (many i : Nat), lo ≤ i + 1 → i ≤ s.length → s.length < i + k → All1 l xs → (pe = false → v = []) → OutQ G pe s many i (compoundGo grp pe k l v many (St s i)) (Im.seqGo s G true k xs v i)
 | 0, l, xs, v, many, i, h1, h2, h3, h4, h5 => by omega
 | k + 1, l, xs, v, many, i, h1, h2, h3, h4, h5 => by
  rw [cg_eq, Im.seqGo]
  by_cases hl : i < s.length
  ·rw [if_pos (show (St s i).bad = false ∧ (St s i).pos < (St s i).s.length from ⟨rfl, hl⟩), if_pos hl]
   have hko := simple_kp grp hk (show Ok (St s i) by show i ≤ s.length + 1; omega)
   rcases simple_out grp G hr hk hg h1 h2 with ⟨hM, hR⟩ | ⟨hT, -, m, hM, hc⟩
   ·rw [hM, hR]
    exact .inr ⟨l, v, many, i, xs, rfl, rfl, h2, h4, h5, Nat.le_refl _, fun _ h => absurd hM h⟩
   rw [if_neg (by rw [hT]; simp), hM]
   rcases hc with ⟨d1, d2⟩ | ⟨x, j, t, e1, e2, hj, hS⟩ | ⟨nm, j, e1, e2, hne, hj⟩
   ·have k2 := cg2_kp grp hk pe k l v many (simple grp (St s i)).1 (simple grp (St s i)).2.1 hko.ok
    refine .inl ⟨?_, k2.2 d2⟩
    rcases d1 with d1 | d1
    ·exact .inl (k2.1.uns d1)
    exact .inr (by rw [d1])
   ·have hlaw := Im.simple_law (i := i) (fun j l j' a b c => hG j l j' om b c) hl (by rw [hM, e1])
    rw [e1, e2]
    simp only
    unfold cg2
    rw [if_neg (fun h => h rfl)]
    by_cases hv : v = []
    ·rw [if_pos hv, if_neg (fun h => h hv)]
     rcases cg_out hr hk hG hg pe k (l ++ [t]) (xs ++ [x]) v (many + 1) j om hj om (h4.snoc hS) h5 with h | ⟨l', v', many', j', xs', c1, c2, c3, c4, c5, c6, c7⟩
     ·exact .inl h
     exact .inr ⟨l', v', many', j', xs', c1, c2, c3, c4, c5, om, fun _ _ => by omega⟩
    rw [if_neg hv, if_pos hv]
    have k2 := cg_kp (s := s) grp hk pe k (l ++ [t]) v (many + 1) (St s j).unsure (show j ≤ s.length + 1 by omega)
    exact .inl ⟨.inr rfl, .inl (k2.1.uns rfl)⟩
   have hlaw := Im.simple_law (i := i) (fun j l j' a b c => hG j l j' om b c) hl (by rw [hM, e1])
   rw [e1, e2]
   simp only
   unfold cg2
   rw [if_pos hne]
   by_cases hp : pe = false
   ·rw [if_pos hp]
    exact .inl ⟨.inl rfl, .inl rfl⟩
   rw [if_neg hp]
   by_cases hv : v = []
   ·rw [if_neg (fun h => h hv), if_neg (fun h => h hv), if_neg dC]
    rcases cg_out hr hk hG hg pe k l xs nm (many + 1) j om hj om h4 (fun h => absurd h hp) with h | ⟨l', v', many', j', xs', c1, c2, c3, c4, c5, c6, c7⟩
    ·exact .inl h
    exact .inr ⟨l', v', many', j', xs', c1, c2, c3, c4, c5, om, fun _ _ => by omega⟩
   rw [if_pos hv, if_pos hv]
   exact .inl ⟨.inr rfl, .inl rfl⟩
  rw [if_neg (show ¬ ((St s i).bad = false ∧ (St s i).pos < (St s i).s.length) from fun h => hl h.2), if_neg hl]
  exact .inr ⟨l, v, many, i, xs, rfl, rfl, h2, h4, h5, Nat.le_refl _, fun h => absurd h hl⟩
end
def CRel (pe : Bool) (t : ST) (x : IS) : Prop := specy t = x.spec ∧ pseudoOf t.flat = x.pel ∧ t.top.kind = 21 ∧ t.top.val = x.pel ∧ (pe = false → x.pel = [])
theorem All1.sum : ∀ {l : List ST} {xs : List IS} (acc : Tr), All1 l xs → sumL acc l = IS.specSum acc xs
 | [], [], acc, _ => by rw [sumL, IS.specSum]
 | [], _ :: _, acc, k => k.elim
 | _ :: _, [], acc, k => k.elim
 | t :: l, x :: xs, acc, k => by
  rw [sumL, IS.specSum, k.1.1]
  exact All1.sum _ k.2
theorem All1.pse : ∀ {l : List ST} {xs : List IS}, All1 l xs → pseudoOf (ST.flatL l) = []
 | [], [], _ => rfl
 | [], _ :: _, k => k.elim
 | _ :: _, [], k => k.elim
 | t :: l, x :: xs, k => by
  rw [ST.flatL, pseudoOf_append _ _ k.1.2.1]
  exact All1.pse k.2
theorem add_zero (x : Tr) : Tr.zero.add x = x := by
 obtain ⟨a, b, c⟩ := x
 simp [Tr.add, Tr.zero]
theorem crel_comp {pe : Bool} {l : List ST} {xs : List IS} {v : List UInt8} (h : All1 l xs) (hv : pe = false → v = []) : CRel pe (.node ⟨21, 0, [], v, 0, 0, 0⟩ l) (.comp xs v) := by
 refine ⟨?_, ?_, rfl, rfl, hv⟩
 ·rw [specy, if_neg (by simp), if_neg (by simp), if_neg (by simp), if_pos (by simp), IS.spec, h.sum]
  by_cases hn : v = []
  ·rw [if_neg (fun hh => hh.2 hn), if_pos hn]
  rw [if_pos ⟨rfl, hn⟩, if_neg hn]
 rw [ST.flat, pseudoOf, IS.pel]
 by_cases hn : v = []
 ·rw [if_neg (fun hh => hh.2 hn), h.pse, hn]
 rw [if_pos ⟨rfl, hn⟩]
theorem crel_one {pe : Bool} {t : ST} {x : IS} (h : Sim1 t x) : CRel pe (.node ⟨21, 0, [], [], 0, 0, 0⟩ [t]) x := by
 refine ⟨?_, ?_, rfl, h.2.2.1.symm, fun _ => h.2.2.1⟩
 ·rw [specy, if_neg dC, if_neg dC, if_neg dC, if_pos dC, if_neg (fun hh => hh.2 rfl), sumL, sumL, add_zero, h.1]
 rw [ST.flat, pseudoOf, if_neg (fun hh => hh.2 rfl), ST.flatL, ST.flatL, List.append_nil, h.2.1, h.2.2.1]
theorem seqEnd_rel {pe : Bool} {l : List ST} {xs : List IS} {v : List UInt8} (h : All1 l xs) (hv : pe = false → v = []) (j : Nat) : ∃ x, Im.seqEnd (some (xs, v, j)) = some (x, j) ∧ CRel pe (.node ⟨21, 0, [], v, 0, 0, 0⟩ l) x := by
 cases xs with
 | nil => exact ⟨_, rfl, crel_comp h hv⟩
 | cons x r =>
  cases r with
  | nil =>
   cases l with
   | nil => exact h.elim
   | cons t l =>
    cases l with
    | cons t2 l => exact h.2.elim
    | nil =>
     by_cases hn : v = []
     ·subst hn
      exact ⟨x, by simp [Im.seqEnd], crel_one h.1⟩
     exact ⟨.comp [x] v, by simp [Im.seqEnd, hn], crel_comp h hv⟩
  | cons y r => exact ⟨_, rfl, crel_comp h hv⟩
def OutC (pe : Bool) (s : List UInt8) (R : ST × Rd) (M : Option (IS × Nat)) : Prop :=
 (R.2.uns = true ∨ M = none) ∧ Dead s R.2 ∨ ∃ x j, M = some (x, j) ∧ R.2 = St s j ∧ j ≤ s.length ∧ CRel pe R.1 x
theorem OutC.uns {pe : Bool} {s : List UInt8} {R : ST × Rd} {M : Option (IS × Nat)} (h : R.2.uns = true) : OutC pe s R M := .inl ⟨.inl h, .inl h⟩
section
variable (grp : Rd → ST × Rd) (G : Nat → Option (List IS × Nat)) {s : List UInt8} {lo i j : Nat}
def comp2 (pe : Bool) (l : List ST) (many : Nat) (r : Rd) : ST × Rd :=
 match compoundGo grp pe (r.s.length + 1) l [] many r with
 | .inl x => x
 | .inr (l, v, many, r) => if many = 0 then fail (if next r = 124 ∨ next r = 42 then r.unsure else r) else (ST.node ⟨21, 0, [], v, 0, 0, 0⟩ l, if next r = 124 ∨ next r = 42 then r.unsure else r)
theorem compound_eq (pe : Bool) (r : Rd) : compound grp pe r = if (taken r [42]).1 = true then comp2 grp pe [] 1 (taken r [42]).2 else if (nameFollows (taken r [42]).2).1 = true then comp2 grp pe [ST.node ⟨2, 0, lower (name (nameFollows (taken r [42]).2).2).1, [], 0, 0, 0⟩ []] 1 (name (nameFollows (taken r [42]).2).2).2 else comp2 grp pe [] 0 (nameFollows (taken r [42]).2).2 := by
 unfold compound
 simp only
 by_cases h : (taken r [42]).1 = true
 ·simp only [h, if_true]; rfl
 have h' : (taken r [42]).1 = false := by simpa using h
 simp only [h', Bool.false_eq_true, if_false]
 by_cases h2 : (nameFollows (taken r [42]).2).1 = true
 ·simp only [h2, if_true]; rfl
 have h2' : (nameFollows (taken r [42]).2).1 = false := by simpa using h2
 simp only [h2', Bool.false_eq_true, if_false]; rfl
theorem comp2_kp (hk : ∀ r, Ok r → Kp s r (grp r).2) (pe : Bool) (l : List ST) (many : Nat) {r : Rd} (h : Ok r) : Kp s r (comp2 grp pe l many r).2 := by
 have h1 := cg_kp grp hk pe (r.s.length + 1) l [] many r h
 unfold comp2
 generalize compoundGo grp pe (r.s.length + 1) l [] many r = R at h1
 cases R with
 | inl x => exact h1
 | inr y =>
  obtain ⟨l', v', many', r'⟩ := y
  have h2 : Kp s r (if next r' = 124 ∨ next r' = 42 then r'.unsure else r') := Kp.unsureIf h1 _
  simp only
  split
  ·exact h2.fail
  exact h2
theorem compound_kp (hk : ∀ r, Ok r → Kp s r (grp r).2) (pe : Bool) {r : Rd} (h : Ok r) : Kp s r (compound grp pe r).2 := by
 have h0 : Kp s r (taken r [42]).2 := (Kp.refl h).taken 42 [] dC
 rw [compound_eq]
 split
 ·exact h0.trans (comp2_kp grp hk pe _ _ h0.ok)
 have h1 := h0.nameFollows
 split
 ·exact h1.name.trans (comp2_kp grp hk pe _ _ h1.name.ok)
 exact h1.trans (comp2_kp grp hk pe _ _ h1.ok)
theorem comp2_out (hr : readable s = true) (hk : ∀ r, Ok r → Kp s r (grp r).2) (hG : Im.GrpW s G lo) (hg : ∀ k, lo ≤ k → k ≤ s.length → OutG false s (grp (St s k)) (G k)) (pe : Bool) {l : List ST} {xs : List IS} (many : Nat) (h1 : lo ≤ i + 1) (h2 : i ≤ s.length) (hl : All1 l xs) (hm : many = 0 → i < s.length ∧ Im.simple s G i ≠ none) : OutC pe s (comp2 grp pe l many (St s i)) (Im.seqEnd (Im.seqGo s G true (s.length + 1) xs [] i)) := by
 have hkk := cg_kp (s := s) grp hk pe (s.length + 1) l [] many (St s i) (show i ≤ s.length + 1 by omega)
 have ho := cg_out grp G hr hk hG hg pe (s.length + 1) l xs [] many i h1 h2 om hl (fun _ => rfl)
 have hK := comp2_kp (s := s) grp hk pe l many (show Ok (St s i) from (show i ≤ s.length + 1 by omega))
 unfold comp2 at hK ⊢
 rw [show (St s i).s.length + 1 = s.length + 1 from rfl] at hK ⊢
 generalize compoundGo grp pe (s.length + 1) l [] many (St s i) = R at hkk ho hK
 rcases ho with ⟨d1, d2⟩ | ⟨l', v', many', j, xs', c1, c2, c3, c4, c5, c6, c7⟩
 ·refine .inl ?_
  cases R with
  | inl x =>
   refine ⟨?_, d2⟩
   rcases d1 with d1 | d1
   ·exact .inl d1
   exact .inr (by rw [d1]; rfl)
  | inr y =>
   obtain ⟨l', v', many', r'⟩ := y
   have d3 : Kp s r' r' := Kp.refl hkk.ok
   have d4 := d3.unsureIf (next r' = 124 ∨ next r' = 42)
   simp only
   split
   ·refine ⟨?_, d4.fail.2 d2⟩
    rcases d1 with d1 | d1
    ·exact .inl (d4.fail.1.uns d1)
    exact .inr (by rw [d1]; rfl)
   refine ⟨?_, d4.2 d2⟩
   rcases d1 with d1 | d1
   ·exact .inl (d4.1.uns d1)
   exact .inr (by rw [d1]; rfl)
 rw [c1, c2]
 simp only
 have hmn : ¬ many' = 0 := fun h => by
  by_cases h0 : many = 0
  ·have := c7 (hm h0).1 (hm h0).2; omega
  omega
 rw [if_neg hmn]
 by_cases hq : next (St s j) = 124 ∨ next (St s j) = 42
 ·rw [if_pos hq]
  exact OutC.uns rfl
 rw [if_neg hq]
 obtain ⟨x, e1, e2⟩ := seqEnd_rel c4 c5 j
 exact .inr ⟨x, j, e1, rfl, c3, e2⟩
theorem sim_tag (v w : List UInt8) : Sim1 (.node ⟨2, 0, w, [], 0, 0, 0⟩ []) (.tag v) := by
 refine ⟨?_, ?_, rfl, ?_, ?_⟩
 ·rw [specy, if_neg (by simp), if_pos rfl, IS.spec]
 ·rw [ST.flat, pseudoOf, if_neg (by simp)]; rfl
 ·show 2 ≠ 21; omega
 show 2 ≠ 22; omega
theorem comp2_none (hr : readable s = true) (hk : ∀ r, Ok r → Kp s r (grp r).2) (hg : ∀ k, lo ≤ k → k ≤ s.length → OutG false s (grp (St s k)) (G k)) (pe : Bool) (l : List ST) (many : Nat) (h1 : lo ≤ i + 1) (h2 : i ≤ s.length) (hn : i < s.length → Im.simple s G i = none) : comp2 grp pe l many (St s i) = if many = 0 then fail (if next (St s i) = 124 ∨ next (St s i) = 42 then (St s i).unsure else St s i) else (ST.node ⟨21, 0, [], [], 0, 0, 0⟩ l, if next (St s i) = 124 ∨ next (St s i) = 42 then (St s i).unsure else St s i) := by
 have e : compoundGo grp pe (s.length + 1) l [] many (St s i) = .inr (l, [], many, St s i) := by
  rw [cg_eq]
  by_cases hl : i < s.length
  ·rw [if_pos (show (St s i).bad = false ∧ (St s i).pos < (St s i).s.length from ⟨rfl, hl⟩)]
   rcases simple_out grp G hr hk hg h1 h2 with ⟨hM, hR⟩ | ⟨hT, -, m, hM, hc⟩
   ·rw [hR]; rfl
   rw [hn hl] at hM; cases hM
  rw [if_neg (show ¬ ((St s i).bad = false ∧ (St s i).pos < (St s i).s.length) from fun h => hl h.2)]
 unfold comp2
 rw [show (St s i).s.length + 1 = s.length + 1 from rfl, e]
theorem simple_none (h : ¬ (byteAt s i = 35 ∨ byteAt s i = 46 ∨ byteAt s i = 91 ∨ byteAt s i = 58)) : Im.simple s G i = none := by
 unfold Im.simple
 rw [if_neg om, if_neg om, if_neg om, if_neg om]
theorem simple_some (h : byteAt s i = 35 ∨ byteAt s i = 46 ∨ byteAt s i = 91 ∨ byteAt s i = 58) : Im.simple s G i ≠ none := by
 unfold Im.simple
 (repeat' split) <;> first | omega | simp
theorem compound_out (hr : readable s = true) (hk : ∀ r, Ok r → Kp s r (grp r).2) (hG : Im.GrpW s G lo) (hg : ∀ k, lo ≤ k → k ≤ s.length → OutG false s (grp (St s k)) (G k)) (pe : Bool) (h1 : lo ≤ i + 1) (h2 : i ≤ s.length) : OutC pe s (compound grp pe (St s i)) (Im.seq s G true i) := by
 have k0 : Kp s (St s i) (St s i) := Kp.refl (show i ≤ s.length + 1 by omega)
 rw [compound_eq, taken1]
 by_cases h42 : byteAt s i = 42
 ·have hl := byte_lt h42 om
  rw [if_pos (show i < s.length ∧ byteAt s i = (42 : UInt8).toNat from ⟨hl, h42⟩)]
  simp only [if_true]
  rw [Im.seq, if_neg om, Im.seqHead, if_pos h42]
  simp only
  by_cases h124 : byteAt s (i + 1) = 124
  ·have hl2 := byte_lt h124 om
   rw [comp2_none grp G hr hk hg pe [] 1 om om (fun _ => simple_none G om), if_neg dC, if_pos (.inl (by rw [next_byte]; exact h124))]
   exact OutC.uns rfl
  rw [if_neg (show ¬ (i + 3 < s.length ∧ byteAt s (i + 1) = 124 ∧ byteAt s (i + 2) = 42) from fun h => h124 h.2.1)]
  exact comp2_out grp G hr hk hG hg pe 1 om om trivial (fun h => absurd h dC)
 rw [if_neg (show ¬ (i < s.length ∧ byteAt s i = (42 : UInt8).toNat) from fun h => h42 h.2)]
 simp only [Bool.false_eq_true, if_false]
 have hnf := k0.nameFollows
 rcases nf_key (s := s) (i := i) with hu | he
 ·split
  ·exact OutC.uns ((comp2_kp (s := s) grp hk pe _ _ (Kp.refl (s := s) hnf.ok).name.ok).1.uns ((Kp.refl (s := s) hnf.ok).name.1.uns hu))
  exact OutC.uns ((comp2_kp (s := s) grp hk pe _ _ hnf.ok).1.uns hu)
 rw [he]
 by_cases his : (nameFollows (St s i)).1 = true
 ·rw [if_pos his]
  have hb : i < s.length ∧ ¬ (byteAt s i = 35 ∨ byteAt s i = 46 ∨ byteAt s i = 91 ∨ byteAt s i = 58) := by
   by_cases hd : i < s.length ∧ byteAt s i = 45
   ·exact ⟨hd.1, om⟩
   rw [nf_other hd] at his
   simp only [Bool.or_eq_true, Bool.and_eq_true, decide_eq_true_eq] at his
   rcases his with h | h
   ·refine ⟨h.1, ?_⟩
    have h3 := h.2
    unfold beginByte at h3
    simp at h3
    omega
   have := esc_follows.1 h
   exact ⟨om, om⟩
  have hM : Im.seq s G true i = Im.seqEnd (match Im.ident s i with | none => none | some (v, j) => Im.seqGo s G true (s.length + 1) [.tag (lower v)] [] j) := by
   rw [Im.seq, if_neg om, Im.seqHead, if_neg h42, if_neg hb.2]
   cases Im.ident s i with
   | none => rfl
   | some p => rfl
  rw [hM]
  rcases (name_out hr h2).cases with ⟨d1, d2⟩ | ⟨v, m, hI, hR, hm⟩
  ·have k2 := comp2_kp (s := s) grp hk pe [ST.node ⟨2, 0, lower (name (St s i)).1, [], 0, 0, 0⟩ []] 1 k0.name.ok
   refine .inl ⟨?_, k2.2 d2⟩
   rcases d1 with d1 | d1
   ·exact .inl (k2.1.uns d1)
   exact .inr (by rw [d1]; rfl)
  have := k0.name.1.pos
  rw [hR] at this
  have him : i ≤ m := this
  rw [hI, hR]
  exact comp2_out grp G hr hk hG hg pe 1 om hm ⟨sim_tag _ _, trivial⟩ (fun h => absurd h dC)
 rw [if_neg his]
 by_cases hs : byteAt s i = 35 ∨ byteAt s i = 46 ∨ byteAt s i = 91 ∨ byteAt s i = 58
 ·have hl : i < s.length := by rcases hs with h | h | h | h <;> exact byte_lt h om
  rw [Im.seq, if_neg om, Im.seqHead, if_neg h42, if_pos hs]
  exact comp2_out grp G hr hk hG hg pe 0 om om trivial (fun _ => ⟨hl, simple_some G hs⟩)
 have hI : Im.ident s i = none := by
  have hn : name (St s i) = ([], (St s i).refuse) := by
   unfold Sp.name
   simp only
   rw [if_neg his, he]
  rcases name_out hr h2 with h | h | ⟨v, j, h3, h4, h5⟩
  ·rw [hn] at h; cases h
  ·exact h.1
  rw [hn] at h4
  injection h4 with h6 h7
  have := congrArg Rd.bad h7
  cases this
 have hM : Im.seq s G true i = none := by
  rw [Im.seq]
  by_cases hl : s.length ≤ i
  ·rw [if_pos hl]
  rw [if_neg hl, Im.seqHead, if_neg h42, if_neg hs, hI]
 rw [hM, comp2_none grp G hr hk hg pe [] 0 h1 h2 (fun _ => simple_none G hs), if_pos rfl]
 have k3 := k0.unsureIf (next (St s i) = 124 ∨ next (St s i) = 42)
 refine .inl ⟨.inr rfl, ?_⟩
 split
 ·exact .inl rfl
 exact .inr ⟨rfl, rfl, rfl, .inl rfl⟩
end
end Lw
end Go.Proofs.YtogfnbkccfkpoaaGreatDoor
namespace Go.Proofs.YtogfnbkccfkpoaaGreatDoor
open Go Go.RowKit
namespace Lw
open Sp
def LRel (pe : Bool) (t : ST) (x : IS) : Prop := XRel pe t x ∧ (ends t = true ↔ x.pel ≠ [])
theorem CRel.l {pe : Bool} {t : ST} {x : IS} (h : CRel pe t x) : LRel pe t x := by
 obtain ⟨h1, h2, h3, h4, h5⟩ := h
 refine ⟨⟨h1, h2, h5⟩, ?_⟩
 unfold ends
 rw [h3, h4]
 simp
theorem lastPseudo_comp {y : ST} (h : y.top.kind = 21) (k : Nat) : lastPseudo (k + 1) y = y.top.val := by
 cases y with
 | node x l =>
  have h' : x.kind = 21 := h
  rw [lastPseudo, if_neg om, if_pos h']; rfl
theorem depth_pos (y : ST) : 1 ≤ depth y := by
 cases y with
 | node x l => rw [depth]; omega
theorem LRel.comb {pe : Bool} {t y : ST} {a b : IS} (op c : Nat) (h : LRel pe t a) (hy : CRel pe y b) (he : ¬ ends t = true) : LRel pe (.node ⟨22, op, [], [], 0, 0, 0⟩ [t, y]) (.comb a c b) := by
 have ha : a.pel = [] := by
  by_cases hh : a.pel = []
  ·exact hh
  exact absurd (h.2.2 hh) he
 refine ⟨⟨?_, ?_, hy.2.2.2.2⟩, ?_⟩
 ·rw [specy, if_neg (by simp), if_neg (by simp), if_neg (by simp), if_pos (by simp), if_neg (by simp), sumL, sumL, sumL, add_zero, h.1.1, hy.1, IS.spec]
 ·rw [ST.flat, pseudoOf, if_neg (by simp), ST.flatL, ST.flatL, ST.flatL, List.append_nil, pseudoOf_append _ _ (by rw [h.1.2.1, ha]), hy.2.1, IS.pel]
 have hd : ∃ d, depth (.node ⟨22, op, [], [], 0, 0, 0⟩ [t, y]) = d + 1 + 1 := by
  rw [depth, depthL, depthL, depthL]
  have := depth_pos y
  exact ⟨max (depth t) (max (depth y) 0) - 1, om⟩
 obtain ⟨d, hd⟩ := hd
 unfold ends
 rw [hd, lastPseudo, if_pos rfl]
 simp only [List.getLast?_cons_cons, List.getLast?_singleton]
 rw [lastPseudo_comp hy.2.2.1, hy.2.2.2.1, IS.pel]
 simp [ST.top]
def OutX (pe : Bool) (s : List UInt8) (R : ST × Rd) (M : Option (IS × Nat)) : Prop :=
 (R.2.uns = true ∨ M = none) ∧ Dead s R.2 ∨ ∃ x j, M = some (x, j) ∧ R.2 = St s j ∧ j ≤ s.length ∧ Im.ws s j = j ∧ XRel pe R.1 x
theorem OutX.uns {pe : Bool} {s : List UInt8} {R : ST × Rd} {M : Option (IS × Nat)} (h : R.2.uns = true) : OutX pe s R M := .inl ⟨.inl h, .inl h⟩
section
variable (grp : Rd → ST × Rd) (G : Nat → Option (List IS × Nat)) {s : List UInt8} {lo i j : Nat}
def cx2 (pe : Bool) (k : Nat) (left : ST) (op : Nat) (r : Rd) : ST × Rd :=
 if ends left then fail r.unsure
 else complexGo grp pe k (ST.node ⟨22, op, [], [], 0, 0, 0⟩ [left, (compound grp pe r).1]) (compound grp pe r).2
def opOf (c : Nat) : Nat := if c = 62 then 2 else if c = 43 then 3 else if c = 126 then 4 else 0
theorem cx_eq (pe : Bool) (k : Nat) (left : ST) (r : Rd) : complexGo grp pe (k + 1) left r = if r.bad = true then (left, r) else if next (spaces r).2 = 43 ∨ next (spaces r).2 = 62 ∨ next (spaces r).2 = 126 then cx2 grp pe k left (opOf (next (spaces r).2)) (spaces ((spaces r).2.adv 1)).2 else if (spaces r).2.s.length ≤ (spaces r).2.pos ∨ next (spaces r).2 = 44 ∨ next (spaces r).2 = 41 then (left, (spaces r).2) else if (spaces r).1 = true then cx2 grp pe k left 1 (spaces r).2 else (left, (spaces r).2) := by
 rw [complexGo]
 by_cases hb : r.bad = true
 ·rw [if_pos hb, if_pos hb]
 rw [if_neg hb, if_neg hb]
 generalize spaces r = S
 obtain ⟨bl, r1⟩ := S
 simp only
 generalize next r1 = c
 by_cases hc : c = 43 ∨ c = 62 ∨ c = 126
 ·rw [if_pos hc]
  have h1 : 0 < (if c = 62 then 2 else if c = 43 then 3 else if c = 126 then 4 else 0) := by
   (repeat' split) <;> omega
  rw [if_pos h1]
  rfl
 rw [if_neg hc]
 have h1 : ¬ 0 < (if c = 62 then 2 else if c = 43 then 3 else if c = 126 then 4 else 0) := by
  rw [if_neg om, if_neg om, if_neg om]; omega
 rw [if_neg h1]
 by_cases h2 : r1.s.length ≤ r1.pos ∨ c = 44 ∨ c = 41
 ·rw [if_pos h2, if_pos h2]
 rw [if_neg h2, if_neg h2]
 cases bl
 ·rfl
 rfl
theorem cx_kp (hk : ∀ r, Ok r → Kp s r (grp r).2) (pe : Bool) : ∀ (k : Nat) (left : ST) (r : Rd), Ok r → Kp s r (complexGo grp pe k left r).2
 | 0, left, r, h => Kp.refl h
 | k + 1, left, r, h => by
  have h0 : Kp s r (spaces r).2 := (Kp.refl h).spaces
  have h2 : ∀ (op : Nat) (r' : Rd), Kp s r r' → Kp s r (cx2 grp pe k left op r').2 := fun op r' hr' => by
   unfold cx2
   split
   ·exact hr'.unsure.fail
   have h3 := hr'.trans (compound_kp grp hk pe hr'.ok)
   exact h3.trans (cx_kp hk pe k _ _ h3.ok)
  rw [cx_eq]
  split
  ·exact Kp.refl h
  split
  ·rename_i hc
   exact h2 _ _ (h0.adv om (next_pos om)).spaces
  split
  ·exact h0
  split
  ·exact h2 _ _ h0
  exact h0
theorem cx_out (hr : readable s = true) (hk : ∀ r, Ok r → Kp s r (grp r).2) (hG : Im.GrpW s G lo) (hg : ∀ k, lo ≤ k → k ≤ s.length → OutG false s (grp (St s k)) (G k)) (pe : Bool) : ∀ (k1 k2 : Nat) (left : ST) (x : IS) (i : Nat), lo ≤ i + 1 → i ≤ s.length → s.length < i + k1 → s.length < i + k2 → LRel pe left x → OutX pe s (complexGo grp pe k1 left (St s i)) (Im.selGo s G true k2 x i)
 | 0, k2, left, x, i, h1, h2, h3, h4, h5 => by omega
 | k1 + 1, 0, left, x, i, h1, h2, h3, h4, h5 => by omega
 | k1 + 1, k2 + 1, left, x, i, h1, h2, h3, h4, h5 => by
  have k0 : Kp s (St s i) (St s i) := Kp.refl (show i ≤ s.length + 1 by omega)
  have hkk := cx_kp grp hk pe (k1 + 1) left (St s i) k0.ok
  have two : ∀ (op c : Nat) (m : Nat), i < m → m ≤ s.length → OutX pe s (cx2 grp pe k1 left op (St s m)) (match Im.seq s G true m with | none => none | some (y, j) => Im.selGo s G true k2 (.comb x c y) j) := fun op c m hm hml => by
   unfold cx2
   by_cases he : ends left = true
   ·rw [if_pos he]
    exact OutX.uns rfl
   rw [if_neg he]
   have k1' := compound_kp (s := s) grp hk pe (show Ok (St s m) from (show m ≤ s.length + 1 by omega))
   rcases compound_out grp G hr hk hG hg pe (show lo ≤ m + 1 by omega) hml with ⟨d1, d2⟩ | ⟨y, j, e1, e2, hj, hC⟩
   ·have k2' := cx_kp (s := s) grp hk pe k1 (ST.node ⟨22, op, [], [], 0, 0, 0⟩ [left, (compound grp pe (St s m)).1]) _ k1'.ok
    refine .inl ⟨?_, k2'.2 d2⟩
    rcases d1 with d1 | d1
    ·exact .inl (k2'.1.uns d1)
    exact .inr (by rw [d1])
   have hlaw := Im.seq_law (i := m) (fun j l j' a b c => hG j l j' om b c) e1
   rw [e1, e2]
   exact cx_out hr hk hG hg pe k1 k2 _ _ j om hj om om (LRel.comb op c h5 hC he)
  rw [cx_eq, if_neg (show ¬ (St s i).bad = true by simp [St])] at hkk ⊢
  rcases spaces_ws h2 with hu | ⟨he, hbl⟩
  ·
   refine OutX.uns ?_
   have k1' : Kp s (spaces (St s i)).2 (spaces (St s i)).2 := Kp.refl k0.spaces.ok
   have h2' : ∀ (op : Nat) (r' : Rd), Kp s (spaces (St s i)).2 r' → Kp s (spaces (St s i)).2 (cx2 grp pe k1 left op r').2 := fun op r' hr' => by
    unfold cx2
    split
    ·exact hr'.unsure.fail
    have h3 := hr'.trans (compound_kp grp hk pe hr'.ok)
    exact h3.trans (cx_kp grp hk pe k1 _ _ h3.ok)
   split
   ·rename_i hc
    exact (h2' _ _ (k1'.adv om (next_pos om)).spaces).1.uns hu
   split
   ·exact hu
   split
   ·exact (h2' _ _ k1').1.uns hu
   exact hu
  rw [he, hbl, Im.selGo]
  simp only
  have hw1 := (Im.ws_le s i).1
  have hw2 := (Im.ws_le s i).2 h2
  have hid := ws_idem s i h2
  rw [next_byte]
  generalize Im.ws s i = m at hw1 hw2 hid
  by_cases hend : s.length ≤ m
  ·rw [if_pos hend, byteAt_end om, if_neg om, if_pos (.inl (show (St s m).s.length ≤ (St s m).pos from hend))]
   exact .inr ⟨x, m, rfl, rfl, hw2, hid, h5.1⟩
  rw [if_neg hend]
  by_cases hc : byteAt s m = 43 ∨ byteAt s m = 62 ∨ byteAt s m = 126
  ·rw [if_pos hc, if_pos hc]
   rcases spaces_ws (s := s) (i := m + 1) om with hu2 | ⟨he2, -⟩
   ·refine OutX.uns ?_
    have o2 : Ok (spaces (St s (m + 1))).2 := ((Kp.refl (s := s) (show Ok (St s (m + 1)) from (show m + 1 ≤ s.length + 1 by omega))).spaces).ok
    show (cx2 grp pe k1 left (opOf (byteAt s m)) (spaces (St s (m + 1))).2).2.uns = true
    unfold cx2
    split
    ·rfl
    have h3 := compound_kp (s := s) grp hk pe o2
    exact (h3.trans (cx_kp grp hk pe k1 _ _ h3.ok)).1.uns hu2
   have hq1 := (Im.ws_le s (m + 1)).1
   have hq2 := (Im.ws_le s (m + 1)).2 om
   have he2' : (spaces ((St s m).adv 1)).2 = St s (Im.ws s (m + 1)) := he2
   rw [he2']
   exact two (opOf (byteAt s m)) (byteAt s m) _ om hq2
  rw [if_neg hc, if_neg hc]
  by_cases h44 : byteAt s m = 44 ∨ byteAt s m = 41
  ·rw [if_pos h44, if_pos (.inr h44)]
   exact .inr ⟨x, m, rfl, rfl, hw2, hid, h5.1⟩
  rw [if_neg h44, if_neg (show ¬ ((St s m).s.length ≤ (St s m).pos ∨ byteAt s m = 44 ∨ byteAt s m = 41) from fun hh => hh.elim hend h44)]
  by_cases hb : i < m
  ·rw [if_pos hb, decide_eq_true hb, if_pos rfl]
   exact two 1 32 m hb hw2
  rw [if_neg hb, decide_eq_false hb, if_neg dC]
  exact .inr ⟨x, m, rfl, rfl, hw2, hid, h5.1⟩
theorem complex_eq (pe : Bool) (r : Rd) : complex grp pe r = complexGo grp pe ((compound grp pe (spaces r).2).2.s.length + 2) (compound grp pe (spaces r).2).1 (compound grp pe (spaces r).2).2 := rfl
theorem complex_kp (hk : ∀ r, Ok r → Kp s r (grp r).2) (pe : Bool) {r : Rd} (h : Ok r) : Kp s r (complex grp pe r).2 := by
 have h0 : Kp s r (spaces r).2 := (Kp.refl h).spaces
 have h1 := h0.trans (compound_kp grp hk pe h0.ok)
 rw [complex_eq]
 exact h1.trans (cx_kp grp hk pe _ _ _ h1.ok)
theorem complex_out (hr : readable s = true) (hk : ∀ r, Ok r → Kp s r (grp r).2) (hG : Im.GrpW s G lo) (hg : ∀ k, lo ≤ k → k ≤ s.length → OutG false s (grp (St s k)) (G k)) (pe : Bool) (h1 : lo ≤ i + 1) (h2 : i ≤ s.length) : OutX pe s (complex grp pe (St s i)) (Im.sel s G true i) := by
 have k0 : Kp s (St s i) (St s i) := Kp.refl (show i ≤ s.length + 1 by omega)
 rw [complex_eq, Im.sel]
 rcases spaces_ws h2 with hu | ⟨he, -⟩
 ·have k1 : Kp s (spaces (St s i)).2 (compound grp pe (spaces (St s i)).2).2 := compound_kp grp hk pe k0.spaces.ok
  exact OutX.uns ((k1.trans (cx_kp grp hk pe _ _ _ k1.ok)).1.uns hu)
 rw [he]
 have hw1 := (Im.ws_le s i).1
 have hw2 := (Im.ws_le s i).2 h2
 generalize Im.ws s i = m at hw1 hw2
 have k1 := compound_kp (s := s) grp hk pe (show Ok (St s m) from (show m ≤ s.length + 1 by omega))
 have k2 := cx_kp (s := s) grp hk pe ((compound grp pe (St s m)).2.s.length + 2) (compound grp pe (St s m)).1 _ k1.ok
 rcases compound_out grp G hr hk hG hg pe (show lo ≤ m + 1 by omega) hw2 with ⟨d1, d2⟩ | ⟨y, j, e1, e2, hj, hC⟩
 ·refine .inl ⟨?_, k2.2 d2⟩
  rcases d1 with d1 | d1
  ·exact .inl (k2.1.uns d1)
  exact .inr (by rw [d1])
 have hlaw := Im.seq_law (i := m) (fun j l j' a b c => hG j l j' om b c) e1
 rw [e1, e2]
 exact cx_out grp G hr hk hG hg pe _ _ _ _ j om hj (by show s.length < j + (s.length + 2); omega) om hC.l
theorem gp_kp (hk : ∀ r, Ok r → Kp s r (grp r).2) (pe : Bool) : ∀ (k : Nat) (l : List ST) (r : Rd), Ok r → Kp s r (groupGo grp pe k l r).2
 | 0, l, r, h => Kp.refl h
 | k + 1, l, r, h => by
  have h0 : Kp s r (taken r [44]).2 := (Kp.refl h).taken 44 [] dC
  have e : groupGo grp pe (k + 1) l r = if r.bad = true then (l, r) else if (taken r [44]).1 = true then groupGo grp pe k (l ++ [(complex grp pe (taken r [44]).2).1]) (complex grp pe (taken r [44]).2).2 else (l, (taken r [44]).2) := by simp only [groupGo]
  rw [e]
  split
  ·exact Kp.refl h
  split
  ·have h1 := h0.trans (complex_kp grp hk pe h0.ok)
   exact h1.trans (gp_kp hk pe k _ _ h1.ok)
  exact h0
theorem gp_out (hr : readable s = true) (hk : ∀ r, Ok r → Kp s r (grp r).2) (hG : Im.GrpW s G lo) (hg : ∀ k, lo ≤ k → k ≤ s.length → OutG false s (grp (St s k)) (G k)) (pe : Bool) : ∀ (k1 k2 : Nat) (l : List ST) (xs : List IS) (i : Nat), lo ≤ i + 1 → i ≤ s.length → s.length < i + k1 → s.length < i + k2 → Im.ws s i = i → All2 pe l xs →
 ((groupGo grp pe k1 l (St s i)).2.uns = true ∨ Im.groupGo s G true k2 xs i = none) ∧ Dead s (groupGo grp pe k1 l (St s i)).2 ∨ ∃ xs' j, Im.groupGo s G true k2 xs i = some (xs', j) ∧ (groupGo grp pe k1 l (St s i)).2 = St s j ∧ j ≤ s.length ∧ Im.ws s j = j ∧ All2 pe (groupGo grp pe k1 l (St s i)).1 xs'
 | 0, k2, l, xs, i, h1, h2, h3, h4, h5, h6 => by omega
 | k1 + 1, 0, l, xs, i, h1, h2, h3, h4, h5, h6 => by omega
 | k1 + 1, k2 + 1, l, xs, i, h1, h2, h3, h4, h5, h6 => by
  have e : groupGo grp pe (k1 + 1) l (St s i) = if (St s i).bad = true then (l, St s i) else if (taken (St s i) [44]).1 = true then groupGo grp pe k1 (l ++ [(complex grp pe (taken (St s i) [44]).2).1]) (complex grp pe (taken (St s i) [44]).2).2 else (l, (taken (St s i) [44]).2) := by simp only [groupGo]
  rw [e, if_neg (show ¬ (St s i).bad = true by simp [St]), taken1, Im.groupGo]
  by_cases hc : i < s.length ∧ byteAt s i = 44
  ·rw [if_pos hc, if_pos (show i < s.length ∧ byteAt s i = (44 : UInt8).toNat from hc)]
   simp only [if_true]
   have k1' := complex_kp (s := s) grp hk pe (show Ok (St s (i + 1)) from (show i + 1 ≤ s.length + 1 by omega))
   rcases complex_out grp G hr hk hG hg pe (show lo ≤ i + 1 + 1 by omega) (show i + 1 ≤ s.length by omega) with ⟨d1, d2⟩ | ⟨y, j, e1, e2, hj, hw, hX⟩
   ·have k2' := gp_kp (s := s) grp hk pe k1 (l ++ [(complex grp pe (St s (i + 1))).1]) _ k1'.ok
    refine .inl ⟨?_, k2'.2 d2⟩
    rcases d1 with d1 | d1
    ·exact .inl (k2'.1.uns d1)
    exact .inr (by rw [d1])
   have hlaw := Im.sel_law (i := i + 1) (fun j l j' a b c => hG j l j' om b c) om e1
   rw [e1, e2]
   exact gp_out hr hk hG hg pe k1 k2 _ _ j om hj om om hw (h6.snoc hX)
  rw [if_neg hc, if_neg (show ¬ (i < s.length ∧ byteAt s i = (44 : UInt8).toNat) from hc)]
  exact .inr ⟨xs, i, rfl, rfl, h2, h5, h6⟩
theorem groupW_eq (pe : Bool) (r : Rd) : groupW grp pe r = (ST.node (SelN.mk1 23) (groupGo grp pe ((complex grp pe r).2.s.length + 2) [(complex grp pe r).1] (complex grp pe r).2).1, (groupGo grp pe ((complex grp pe r).2.s.length + 2) [(complex grp pe r).1] (complex grp pe r).2).2) := by simp only [groupW]
theorem groupW_kp (hk : ∀ r, Ok r → Kp s r (grp r).2) (pe : Bool) {r : Rd} (h : Ok r) : Kp s r (groupW grp pe r).2 := by
 have h1 := complex_kp (s := s) grp hk pe h
 rw [groupW_eq]
 exact h1.trans (gp_kp grp hk pe _ _ _ h1.ok)
theorem groupW_out (hr : readable s = true) (hk : ∀ r, Ok r → Kp s r (grp r).2) (hG : Im.GrpW s G lo) (hg : ∀ k, lo ≤ k → k ≤ s.length → OutG false s (grp (St s k)) (G k)) (pe : Bool) (h1 : lo ≤ i + 1) (h2 : i ≤ s.length) : OutG pe s (groupW grp pe (St s i)) (Im.groupW s G true i) := by
 have k1 := complex_kp (s := s) grp hk pe (show Ok (St s i) from (show i ≤ s.length + 1 by omega))
 have k2 := gp_kp (s := s) grp hk pe ((complex grp pe (St s i)).2.s.length + 2) [(complex grp pe (St s i)).1] _ k1.ok
 rw [groupW_eq, Im.groupW]
 rcases complex_out grp G hr hk hG hg pe h1 h2 with ⟨d1, d2⟩ | ⟨y, j, e1, e2, hj, hw, hX⟩
 ·refine .inl ⟨?_, k2.2 d2⟩
  rcases d1 with d1 | d1
  ·exact .inl (k2.1.uns d1)
  exact .inr (by rw [d1])
 have hlaw := Im.sel_law (i := i) (fun j l j' a b c => hG j l j' om b c) h2 e1
 rw [e1, e2]
 rcases gp_out grp G hr hk hG hg pe (s.length + 2) (s.length + 1) [(complex grp pe (St s i)).1] [y] j om hj om om hw ⟨hX, trivial⟩ with h | ⟨xs', j', g1, g2, g3, g4, g5⟩
 ·exact .inl h
 exact .inr ⟨xs', j', g1, g2, g3, g4, _, rfl, g5⟩
end
theorem group_kp (s : List UInt8) : ∀ (k : Nat) (pe : Bool) (r : Rd), Ok r → Kp s r (group k pe r).2
 | 0, pe, r, h => Kp.refl h
 | k + 1, pe, r, h => groupW_kp (group k false) (fun r h => group_kp s k false r h) pe h
theorem group_out {s : List UInt8} (hr : readable s = true) : ∀ (k : Nat) (pe : Bool) (i : Nat), i ≤ s.length → s.length < i + k → OutG pe s (group k pe (St s i)) (Im.group s true k i)
 | 0, pe, i, h1, h2 => by omega
 | k + 1, pe, i, h1, h2 => by
  rw [group, Im.group]
  exact groupW_out (lo := i + 1) (group k false) (Im.group s true k) hr (fun r h => group_kp s k false r h) (Im.group_law s true k (i + 1)) (fun j hj hjl => group_out hr k false j hjl om) pe (Nat.le_refl _) h1
theorem All2.len {pe : Bool} : ∀ {l : List ST} {xs : List IS}, All2 pe l xs → xs.length = l.length
 | [], [], _ => rfl
 | [], _ :: _, k => k.elim
 | _ :: _, [], k => k.elim
 | _ :: _, _ :: _, k => by rw [List.length_cons, List.length_cons, All2.len k.2]
theorem All2.get {pe : Bool} : ∀ {l : List ST} {xs : List IS}, All2 pe l xs → ∀ (i : Nat) (t : ST) (x : IS), l[i]? = some t → xs[i]? = some x → XRel pe t x
 | [], _, _, i, t, x, h1, h2 => by simp at h1
 | _ :: _, [], k, i, t, x, h1, h2 => k.elim
 | _ :: _, _ :: _, k, 0, t, x, h1, h2 => by
  simp at h1 h2
  rw [← h1, ← h2]; exact k.1
 | _ :: _, _ :: _, k, i + 1, t, x, h1, h2 => All2.get k.2 i t x (by simpa using h1) (by simpa using h2)
end Lw
open Lw in
theorem law (s : List UInt8) : Law s := by
 intro T fine hp
 have hP : Sp.parsed s true = if Sp.readable s = false then (Sp.failed, false, false) else if ((Sp.group (s.length + 2) true (St s 0)).2.bad || decide ((Sp.group (s.length + 2) true (St s 0)).2.pos < s.length)) = true then (Sp.failed, false, !(Sp.group (s.length + 2) true (St s 0)).2.uns) else ((Sp.group (s.length + 2) true (St s 0)).1, true, !(Sp.group (s.length + 2) true (St s 0)).2.uns) := by
  unfold Sp.parsed St
  simp only
 rw [hP] at hp
 clear hP
 cases hr : Sp.readable s with
 | false => rw [if_pos hr] at hp; injection hp with h1 h2; injection h2 with h2 h3; cases h3
 | true =>
  rw [if_neg (by rw [hr]; simp)] at hp
  have hu : (Sp.group (s.length + 2) true (St s 0)).2.uns = false := by
   split at hp
   ·injection hp with h1 h2; injection h2 with h2 h3; simpa using h3
   injection hp with h1 h2; injection h2 with h2 h3; simpa using h3
  have hM : Im.parsed s = match Im.group s true (s.length + 2) 0 with | none => none | some (l, i) => if i < s.length then none else some l := rfl
  rcases group_out hr (s.length + 2) true 0 om om with ⟨d1, d2⟩ | ⟨xs, j, e1, e2, hj, hw, l, e3, hA⟩
  ·have hN := d1.resolve_left (by rw [hu]; simp)
   rw [hM, hN]
   have hb : ((Sp.group (s.length + 2) true (St s 0)).2.bad || decide ((Sp.group (s.length + 2) true (St s 0)).2.pos < s.length)) = true := by
    rcases d2 with d2 | ⟨-, -, -, d2⟩
    ·rw [hu] at d2; cases d2
    rcases d2 with d2 | ⟨-, d2⟩
    ·rw [d2]; rfl
    rw [decide_eq_true d2.1]; simp
   rw [if_pos hb] at hp
   injection hp with h1 h2
   injection h2 with h2 h3
   subst h2
   exact ⟨fun _ => rfl, fun h => by cases h⟩
  rw [hM, e1]
  simp only
  rw [e2] at hp
  by_cases hl : j < s.length
  ·rw [if_pos (show ((St s j).bad || decide ((St s j).pos < s.length)) = true by show (false || decide (j < s.length)) = true; rw [decide_eq_true hl]; rfl)] at hp
   injection hp with h1 h2
   injection h2 with h2 h3
   subst h2
   rw [if_pos hl]
   exact ⟨fun _ => rfl, fun h => by cases h⟩
  rw [if_neg (show ¬ ((St s j).bad || decide ((St s j).pos < s.length)) = true by show ¬ (false || decide (j < s.length)) = true; rw [decide_eq_false hl]; simp)] at hp
  injection hp with h1 h2
  injection h2 with h2 h3
  subst h1 h2
  rw [if_neg hl, e3]
  refine ⟨fun h => by (cases h), fun _ => ⟨xs, rfl, rfl, hA.len, fun i k x h1 h2 => ?_⟩⟩
  have := hA.get i k x h1 h2
  exact ⟨this.1, this.2.1⟩
end Go.Proofs.YtogfnbkccfkpoaaGreatDoor
