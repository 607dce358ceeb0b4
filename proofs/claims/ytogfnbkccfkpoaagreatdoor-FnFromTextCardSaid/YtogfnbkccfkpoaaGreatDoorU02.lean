/- A part (2) of the proof of the row of laws.FnFromText: lemmas on SpL, Eng3, Ab, Rd. No condition but what each statement says. -/
import Derived.Test.YtogfnbkccfkpoaaGreatDoorU01
import Derived.Scope
set_option linter.unusedSimpArgs false
set_option linter.unusedVariables false
namespace Go.Proofs.YtogfnbkccfkpoaaGreatDoor
open Go Go.RowKit
namespace Sp
def nx (s : List UInt8) (p : Nat) : Nat := if p < s.length then byteAt s p else 0
@[simp] theorem next_mk (s : List UInt8) (p : Nat) (b u ps : Bool) : next ⟨s, p, b, u, ps⟩ = nx s p := rfl
theorem nx_lt (s : List UInt8) (p : Nat) : nx s p < 256 := next_lt ⟨s, p, false, false, false⟩
theorem nx_pos {s : List UInt8} {p : Nat} (h : nx s p ≠ 0) : p < s.length := by
 unfold nx at h; split at h
 ·assumption
 exact absurd rfl h
def escAt (s : List UInt8) (i : Nat) : Bool := escapeFollows ⟨s, 0, false, false, false⟩ i
@[simp] theorem escapeFollows_mk (s : List UInt8) (p : Nat) (b u ps : Bool) (i : Nat) : escapeFollows ⟨s, p, b, u, ps⟩ i = escAt s i := rfl
def hereAt (s : List UInt8) (p : Nat) (t : List UInt8) : Bool := here ⟨s, p, false, false, false⟩ t
@[simp] theorem here_mk (s : List UInt8) (p : Nat) (b u ps : Bool) (t : List UInt8) : here ⟨s, p, b, u, ps⟩ t = hereAt s p t := rfl
structure Le (r r' : Rd) : Prop where
 s : r'.s = r.s
 ps : r'.ps = r.ps
 pos : r.pos ≤ r'.pos
 top : r'.pos ≤ r.s.length + 1
 bad : r.bad = true → r'.bad = true
 uns : r.uns = true → r'.uns = true
abbrev Ok (r : Rd) : Prop := r.pos ≤ r.s.length + 1
theorem Le.refl {r : Rd} (h : Ok r) : Le r r := ⟨rfl, rfl, Nat.le_refl _, h, id, id⟩
theorem Le.trans {a b c : Rd} (h : Le a b) (k : Le b c) : Le a c :=
 ⟨k.s.trans h.s, k.ps.trans h.ps, Nat.le_trans h.pos k.pos, by have := k.top; rw [h.s] at this; exact this, fun q => k.bad (h.bad q), fun q => k.uns (h.uns q)⟩
theorem Le.ok {a b : Rd} (h : Le a b) : Ok b := by have := h.top; unfold Ok; rw [h.s]; exact this
theorem Le.is {s : List UInt8} {p : Nat} {b u ps : Bool} {r' : Rd} (h : Le ⟨s, p, b, u, ps⟩ r') : ∃ p' b' u', r' = ⟨s, p', b', u', ps⟩ ∧ p ≤ p' ∧ p' ≤ s.length + 1 ∧ (b = true → b' = true) ∧ (u = true → u' = true) := by
 obtain ⟨s', p', b', u', ps'⟩ := r'
 obtain ⟨h1, h2, h3, h4, h5, h6⟩ := h
 simp only at *
 subst h1 h2
 exact ⟨p', b', u', rfl, h3, h4, h5, h6⟩
theorem Le.split {α : Type} {f : α × Rd} {s : List UInt8} {p : Nat} {b u ps : Bool} (h : Le ⟨s, p, b, u, ps⟩ f.2) : ∃ v p' b' u', f = (v, ⟨s, p', b', u', ps⟩) ∧ p ≤ p' ∧ p' ≤ s.length + 1 ∧ (b = true → b' = true) ∧ (u = true → u' = true) := by
 obtain ⟨v, r'⟩ := f
 obtain ⟨p', b', u', e, h1⟩ := h.is
 simp only at e
 subst e
 exact ⟨v, p', b', u', rfl, h1⟩
theorem next_pos {r : Rd} (h : next r ≠ 0) : r.pos < r.s.length := by
 unfold next at h; split at h
 ·assumption
 exact absurd rfl h
theorem isSpace_pos {r : Rd} (h : isSpace (next r) = true) : r.pos < r.s.length := by
 apply next_pos; intro e; rw [e] at h; simp [isSpace] at h
@[simp] theorem adv_s (r : Rd) (k : Nat) : (r.adv k).s = r.s := rfl
@[simp] theorem adv_pos (r : Rd) (k : Nat) : (r.adv k).pos = r.pos + k := rfl
@[simp] theorem unsure_s (r : Rd) : r.unsure.s = r.s := rfl
@[simp] theorem unsure_pos (r : Rd) : r.unsure.pos = r.pos := rfl
@[simp] theorem refuse_s (r : Rd) : r.refuse.s = r.s := rfl
@[simp] theorem refuse_pos (r : Rd) : r.refuse.pos = r.pos := rfl
@[simp] theorem orUns_s (r : Rd) (u : Bool) : (r.orUns u).s = r.s := rfl
@[simp] theorem orUns_pos (r : Rd) (u : Bool) : (r.orUns u).pos = r.pos := rfl
@[simp] theorem orBad_s (r : Rd) (u : Bool) : (r.orBad u).s = r.s := rfl
@[simp] theorem orBad_pos (r : Rd) (u : Bool) : (r.orBad u).pos = r.pos := rfl
theorem le_adv {r : Rd} {k : Nat} (h : r.pos + k ≤ r.s.length + 1) : Le r (r.adv k) := ⟨rfl, rfl, Nat.le_add_right _ _, h, id, id⟩
theorem le_step {r : Rd} (h : r.pos < r.s.length + 1) : Le r (r.adv 1) := le_adv (by omega)
theorem le_bad {r : Rd} (h : Ok r) : Le r r.refuse := ⟨rfl, rfl, Nat.le_refl _, h, fun _ => rfl, id⟩
theorem le_uns {r : Rd} (h : Ok r) : Le r r.unsure := ⟨rfl, rfl, Nat.le_refl _, h, id, fun _ => rfl⟩
theorem le_orU {r : Rd} (h : Ok r) (u : Bool) : Le r (r.orUns u) := ⟨rfl, rfl, Nat.le_refl _, h, id, fun q => by simp [Rd.orUns, q]⟩
theorem le_orB {r : Rd} (h : Ok r) (u : Bool) : Le r (r.orBad u) := ⟨rfl, rfl, Nat.le_refl _, h, fun q => by simp [Rd.orBad, q], id⟩
theorem here_len {r : Rd} {t : List UInt8} (h : here r t = true) : r.pos + t.length ≤ r.s.length := by
 simp [here] at h; exact h.1
theorem taken_le (r : Rd) (t : List UInt8) (h : Ok r) : Le r (taken r t).2 := by
 unfold taken; split
 ·rename_i hh; have := here_len hh; exact le_adv (by omega)
 exact Le.refl h
theorem comment_le (r : Rd) (h : Ok r) : Le r (comment r) := by
 obtain ⟨p, b, u, e, hh⟩ := comment_facts r
 rw [e]
 rcases hh with ⟨rfl, rfl, rfl⟩ | ⟨rfl, rfl, h1, h2⟩
 ·exact ⟨rfl, rfl, Nat.le_refl _, h, fun _ => rfl, fun _ => rfl⟩
 exact ⟨rfl, rfl, by simp; omega, by simp; omega, id, id⟩
theorem spacesGo_le : ∀ (k : Nat) (r : Rd), Ok r → Le r (spacesGo k r)
 | 0, r, h => Le.refl h
 | k + 1, r, h => by
  unfold spacesGo
  split
  ·rename_i hc
   split
   ·have := le_step (r := r) (by omega); exact this.trans (spacesGo_le k _ this.ok)
   split
   ·have := comment_le r h; exact this.trans (spacesGo_le k _ this.ok)
   exact Le.refl h
  exact Le.refl h
theorem spaces_le (r : Rd) (h : Ok r) : Le r (spaces r).2 := spacesGo_le _ r h
theorem nameFollows_le (r : Rd) (h : Ok r) : Le r (nameFollows r).2 := by
 unfold nameFollows
 split
 ·dsimp only
  split
  ·exact le_uns h
  exact Le.refl h
 exact Le.refl h
theorem pointTail_le (s : List UInt8) (i c many least : Nat) (h : i < s.length) : i + (pointTail s i c many least).2 ≤ s.length := by
 unfold pointTail
 split
 ·show i + 0 ≤ _; omega
 split
 ·show i + 0 ≤ _; omega
 split
 ·show i + 0 ≤ _; omega
 show i + many ≤ _; omega
theorem point_le (s : List UInt8) (i : Nat) (h : i < s.length) : i + (point s i).2 ≤ s.length := by
 unfold point
 dsimp only
 (repeat' split) <;> first | exact pointTail_le s i _ _ _ h | (show i + 1 ≤ _; omega) | (show i + 0 ≤ _; omega)
theorem hexGo_le : ∀ (k n many : Nat) (r : Rd), Ok r → Le r (hexGo k n many r).2.2 ∧ many ≤ (hexGo k n many r).2.1 ∧ (hexGo k n many r).2.1 ≤ many + k ∧ (hexGo k n many r).2.2.pos = r.pos + ((hexGo k n many r).2.1 - many) ∧ (r.pos ≤ r.s.length → (hexGo k n many r).2.2.pos ≤ r.s.length) ∧ (n < 16 ^ many → (hexGo k n many r).1 < 16 ^ (hexGo k n many r).2.1)
 | 0, n, many, r, h => ⟨Le.refl h, Nat.le_refl _, Nat.le_refl _, by simp [hexGo], fun h => h, fun h => h⟩
 | k + 1, n, many, r, h => by
  unfold hexGo
  split
  ·rename_i d hd
   have hlt : r.pos < r.s.length := by
    apply next_pos; intro e; rw [e] at hd; simp [hexv] at hd
   have hd16 : d < 16 := by
    unfold hexv at hd
    (repeat' split at hd) <;> simp at hd <;> omega
   have hs := le_step (r := r) (by omega)
   obtain ⟨h1, h2, h3, h4, h5, h6⟩ := hexGo_le k (16 * n + d) (many + 1) (r.adv 1) hs.ok
   refine ⟨hs.trans h1, by omega, by omega, ?_, fun _ => ?_, fun hn => ?_⟩
   ·rw [h4, adv_pos]; omega
   ·have := h5 (by rw [adv_pos, adv_s]; omega); exact this
   refine h6 ?_
   rw [Nat.pow_succ]; omega
  exact ⟨Le.refl h, Nat.le_refl _, Nat.le_add_right _ _, by simp, fun h => h, fun h => h⟩
theorem encode_le (n : Int) : (bytesOf (Utf8.encode n)).length ≤ 4 := by
 unfold Utf8.encode bytesOf
 generalize (if Utf8.valid n = true then n.toNat else Utf8.runeError) = c
 show (ByteArray.data (if c < 128 then _ else if c < 2048 then _ else if c < 65536 then _ else _)).toList.length ≤ 4
 split
 ·exact (by decide : 1 ≤ 4)
 split
 ·exact (by decide : 2 ≤ 4)
 split
 ·exact (by decide : 3 ≤ 4)
 exact (by decide : 4 ≤ 4)
theorem utf8_le (n : Nat) : (utf8 n).length ≤ 4 := encode_le n
theorem escape_le (r : Rd) (h : r.pos + 1 < r.s.length) : Le r (escape r).2 ∧ (escape r).1.length ≤ 4 ∧ r.pos < (escape r).2.pos ∧ (escape r).2.pos ≤ r.s.length := by
 have h1 := le_step (r := r) (by omega)
 obtain ⟨g1, g2, g3, g4, g5, -⟩ := hexGo_le 6 0 0 (r.adv 1) h1.ok
 have g5 := g5 (by rw [adv_pos, adv_s]; omega)
 rw [adv_s] at g5
 unfold escape
 dsimp only
 generalize hexGo 6 0 0 (r.adv 1) = x at *
 obtain ⟨n, many, r1⟩ := x
 dsimp only at *
 split
 ·have hp := point_le r.s (r.pos + 1) (by omega)
  have hk : (point r.s (r.pos + 1)).2 ≤ 4 := by
   unfold point; dsimp only
   (repeat' split) <;> first | (unfold pointTail; (repeat' split) <;> simp) | simp
  refine ⟨h1.trans (le_adv (by simp; omega)), ?_, by simp; omega, by simp; omega⟩
  simp; omega
 have h2 := taken_le r1 [13, 10] (h1.trans g1).ok
 have hs2 : (taken r1 [13, 10]).2.pos ≤ r.s.length := by
  unfold taken
  split
  ·rename_i hh
   have := here_len hh
   rw [g1.s] at this
   exact this
  exact g5
 have h12 := (h1.trans g1).trans h2
 have hpp : r.pos + 1 ≤ (taken r1 [13, 10]).2.pos := Nat.le_trans g1.pos h2.pos
 generalize taken r1 [13, 10] = q at *
 obtain ⟨is, r2⟩ := q
 dsimp only at *
 have h3 : Le r (if is = false ∧ isSpace (next r2) = true then r2.adv 1 else r2) ∧ r.pos + 1 ≤ (if is = false ∧ isSpace (next r2) = true then r2.adv 1 else r2).pos ∧ (if is = false ∧ isSpace (next r2) = true then r2.adv 1 else r2).pos ≤ r.s.length := by
  split
  ·rename_i hc
   have hsp := isSpace_pos hc.2
   rw [h12.s] at hsp
   refine ⟨h12.trans (le_step (by rw [h12.s]; omega)), by simp; omega, by simp; omega⟩
  exact ⟨h12, hpp, hs2⟩
 generalize (if is = false ∧ isSpace (next r2) = true then r2.adv 1 else r2) = r3 at *
 obtain ⟨h31, h32, h33⟩ := h3
 have h34 : r.pos < r3.pos := by omega
 split
 ·exact ⟨h31.trans (le_uns h31.ok), Nat.zero_le _, h34, h33⟩
 have h4 := utf8_le n
 generalize utf8 n = ut at *
 exact ⟨h31, h4, h34, h33⟩
theorem escAt_len {s : List UInt8} {i : Nat} (h : escAt s i = true) : i + 1 < s.length := by
 simp [escAt, escapeFollows] at h; omega
theorem escapeFollows_len {r : Rd} {i : Nat} (h : escapeFollows r i = true) : i + 1 < r.s.length := by
 simp [escapeFollows] at h; omega
theorem restGo_le : ∀ (k : Nat) (out : List UInt8) (r : Rd), Ok r → Le r (restGo k out r).2 ∧ (restGo k out r).1.length ≤ out.length + 4 * ((restGo k out r).2.pos - r.pos)
 | 0, out, r, h => ⟨Le.refl h, by simp [restGo]⟩
 | k + 1, out, r, h => by
  unfold restGo
  split
  ·rename_i hc
   split
   ·have h1 := le_step (r := r) (by omega)
    obtain ⟨h2, h3⟩ := restGo_le k (out ++ (r.s.drop r.pos).take 1) (r.adv 1) h1.ok
    refine ⟨h1.trans h2, ?_⟩
    have := h2.pos
    simp only [List.length_append, List.length_take, List.length_drop, adv_pos] at h3 this
    omega
   split
   ·rename_i he
    obtain ⟨h1, h4, h5, h6⟩ := escape_le r (escapeFollows_len he)
    obtain ⟨h2, h3⟩ := restGo_le k (out ++ (escape r).1) (escape r).2 h1.ok
    refine ⟨h1.trans h2, ?_⟩
    have := h2.pos
    simp only [List.length_append] at h3
    omega
   exact ⟨Le.refl h, by simp⟩
  exact ⟨Le.refl h, by simp⟩
theorem rest_le (r : Rd) (h : Ok r) : Le r (rest r).2 ∧ (rest r).1.length ≤ 4 * ((rest r).2.pos - r.pos) := by
 have := restGo_le (r.s.length + 1) [] r h
 simpa [rest] using this
theorem name_le (r : Rd) (h : Ok r) : Le r (name r).2 ∧ (name r).1.length ≤ 4 * ((name r).2.pos - r.pos) := by
 have h1 := nameFollows_le r h
 unfold name
 dsimp only
 generalize nameFollows r = x at *
 obtain ⟨is, r1⟩ := x
 dsimp only at *
 split
 ·obtain ⟨h2, h3⟩ := rest_le r1 h1.ok
  refine ⟨h1.trans h2, ?_⟩
  have := h1.pos; have := h2.pos; omega
 exact ⟨h1.trans (le_bad h1.ok), by simp⟩
theorem hash_le (r : Rd) (h : Ok r) : Le r (hash r).2 ∧ (hash r).1.length ≤ 4 * ((hash r).2.pos - r.pos) := by
 have h1 := nameFollows_le r h
 unfold hash
 dsimp only
 generalize nameFollows r = x at *
 obtain ⟨is, r1⟩ := x
 dsimp only at *
 have h2 : Le r (if is = true then r1 else (r1.orUns (nameByte (next r1))).orBad (!nameByte (next r1))) := by
  split
  ·exact h1
  exact (h1.trans (le_orU h1.ok _)).trans (le_orB (h1.trans (le_orU h1.ok _)).ok _)
 generalize (if is = true then r1 else (r1.orUns (nameByte (next r1))).orBad (!nameByte (next r1))) = r2 at *
 split
 ·exact ⟨h2, by simp⟩
 obtain ⟨h4, h3⟩ := rest_le r2 h2.ok
 refine ⟨h2.trans h4, ?_⟩
 have := h2.pos; have := h4.pos; omega
theorem quotedGo_le (q : Nat) : ∀ (k : Nat) (out : List UInt8) (r : Rd), Ok r → Le r (quotedGo q k out r).2 ∧ (quotedGo q k out r).1.length ≤ out.length + 4 * ((quotedGo q k out r).2.pos - r.pos)
 | 0, out, r, h => ⟨le_bad h, by simp [quotedGo]⟩
 | k + 1, out, r, h => by
  unfold quotedGo
  split
  ·rename_i hlt
   have h1 := le_step (r := r) (by omega)
   dsimp only
   split
   ·exact ⟨h1, by simp⟩
   split
   ·exact ⟨le_bad h, by simp⟩
   split
   ·obtain ⟨h2, h3⟩ := quotedGo_le q k (out ++ (r.s.drop r.pos).take 1) (r.adv 1) h1.ok
    refine ⟨h1.trans h2, ?_⟩
    have := h2.pos
    simp only [List.length_append, List.length_take, List.length_drop, adv_pos] at h3 this
    omega
   split
   ·rename_i he
    obtain ⟨h1, h4, h5, h6⟩ := escape_le r (escapeFollows_len he)
    obtain ⟨h2, h3⟩ := quotedGo_le q k (out ++ (escape r).1) (escape r).2 h1.ok
    refine ⟨h1.trans h2, ?_⟩
    have := h2.pos
    simp only [List.length_append] at h3
    omega
   have ht := taken_le (r.adv 1) [13, 10] h1.ok
   have hnt : (taken (r.adv 1) [13, 10]).1 = false → (taken (r.adv 1) [13, 10]).2 = r.adv 1 := by
    intro hf
    unfold taken at hf ⊢; split
    ·rename_i hh; simp [hh] at hf
    rfl
   generalize taken (r.adv 1) [13, 10] = x at *
   obtain ⟨is, r2⟩ := x
   dsimp only at *
   have hx : Le r (if is = true then r2 else r2.adv 1) := by
    split
    ·exact h1.trans ht
    rename_i hf
    rw [hnt (by simpa using hf)]
    exact h1.trans (le_adv (by simp; omega))
   generalize (if is = true then r2 else r2.adv 1) = r3 at *
   obtain ⟨h2, h3⟩ := quotedGo_le q k out r3 hx.ok
   refine ⟨hx.trans h2, ?_⟩
   have := hx.pos; have := h2.pos; omega
  exact ⟨le_bad h, by simp⟩
theorem quoted_le (r : Rd) (h : r.pos ≤ r.s.length) : Le r (quoted r).2 ∧ (quoted r).1.length ≤ 4 * ((quoted r).2.pos - r.pos) := by
 have h1 := le_step (r := r) (by omega)
 obtain ⟨h2, h3⟩ := quotedGo_le (next r) (r.s.length + 2) [] (r.adv 1) h1.ok
 refine ⟨h1.trans h2, ?_⟩
 have := h2.pos
 simp only [List.length_nil, adv_pos] at h3 this
 unfold quoted
 omega
theorem value_le (r : Rd) (h : Ok r) : Le r (value r).2 ∧ (value r).1.length ≤ 4 * ((value r).2.pos - r.pos) := by
 unfold value
 dsimp only
 split
 ·rename_i hc
  have : next r ≠ 0 := by omega
  exact quoted_le r (by have := next_pos this; omega)
 have h1 := nameFollows_le r h
 generalize nameFollows r = x at *
 obtain ⟨is, r1⟩ := x
 dsimp only at *
 have h2 : Le r (if is = false ∧ (nameByte (next r) = true ∨ 128 ≤ next r) then r1.unsure else r1) := by
  split
  ·exact h1.trans (le_uns h1.ok)
  exact h1
 generalize (if is = false ∧ (nameByte (next r) = true ∨ 128 ≤ next r) then r1.unsure else r1) = r2 at *
 obtain ⟨h4, h3⟩ := name_le _ h2.ok
 refine ⟨h2.trans h4, ?_⟩
 have := h2.pos; have := h4.pos; omega
theorem lower_length (s : List UInt8) : (lower s).length = s.length := by simp [lower]
theorem small_le (r : Rd) (s : List UInt8) (h : Ok r) : Le r (small r s).2 := le_orU h _
theorem element_le (r : Rd) (h : Ok r) : Le r (element r).2 ∧ (element r).1.length ≤ 4 * ((element r).2.pos - r.pos) := by
 obtain ⟨h1, h2⟩ := name_le r h
 unfold element
 dsimp only
 generalize name r = x at *
 obtain ⟨nm, r1⟩ := x
 dsimp only at *
 have h3 : Le r (if elements.contains (lower nm) = true then r1 else r1.unsure) ∧ (if elements.contains (lower nm) = true then r1 else r1.unsure).pos = r1.pos := by
  split
  ·exact ⟨h1, rfl⟩
  exact ⟨h1.trans (le_uns h1.ok), rfl⟩
 generalize (if elements.contains (lower nm) = true then r1 else r1.unsure) = r2 at *
 refine ⟨h3.1.trans (le_orU h3.1.ok _), ?_⟩
 rw [lower_length]
 simp only [orUns_pos, h3.2]
 exact h2
theorem word_le (r : Rd) (t : List UInt8) (h : Ok r) : Le r (word r t).2 := by
 unfold word
 dsimp only
 split
 ·exact Le.refl h
 rename_i hc
 exact le_adv (by omega)
theorem digitsGo_le : ∀ (k n : Nat) (is : Bool) (r : Rd), Ok r → n ≤ 100000 → Le r (digitsGo k n is r).2.2 ∧ (digitsGo k n is r).1 ≤ 100000
 | 0, n, is, r, h, hn => ⟨Le.refl h, hn⟩
 | k + 1, n, is, r, h, hn => by
  unfold digitsGo
  split
  ·rename_i hc
   have hlt : r.pos < r.s.length := next_pos (by omega)
   have h1 := le_step (r := r) (by omega)
   obtain ⟨h2, h3⟩ := digitsGo_le k (min (10 * n + (next r - 48)) 100000) true (r.adv 1) h1.ok (by omega)
   exact ⟨h1.trans h2, h3⟩
  exact ⟨Le.refl h, hn⟩
theorem digits_le (r : Rd) (h : Ok r) : Le r (digits r).2.2 ∧ (digits r).1 ≤ 100000 := by
 obtain ⟨h1, h2⟩ := digitsGo_le (r.s.length + 1) 0 false r h (by omega)
 exact ⟨h1.trans (le_orU h1.ok _), h2⟩
end Sp
end Go.Proofs.YtogfnbkccfkpoaaGreatDoor
set_option linter.unusedSectionVars false
namespace Go.Proofs.YtogfnbkccfkpoaaGreatDoor
open Go Go.RowKit
namespace Eng
section
variable [Df]
variable {P : Program} {Q : Post} {n : Nat} {l : Fr} {w : World} {Cl : World → Prop}
def idle (o : Oper) : Oper := { o with op := .move (.const (.bool true)), dst := none }
def stub : List Oper → List Oper
 | [] => []
 | [o] => [idle o]
 | o :: p :: r => o :: stub (p :: r)
theorem stub_length : ∀ o : List Oper, (stub o).length = o.length
 | [] => rfl
 | [o] => rfl
 | o :: p :: r => by rw [stub, List.length_cons, List.length_cons, stub_length (p :: r)]
theorem stub_get : ∀ (o : List Oper) (i : Nat), (stub o)[i]? = if i + 1 = o.length then o[i]?.map idle else o[i]?
 | [], i => by simp [stub]
 | [o], i => by
  cases i with
  | zero => simp [stub]
  | succ i => simp [stub]
 | o :: p :: r, i => by
  cases i with
  | zero => simp [stub]
  | succ i =>
   rw [stub, List.getElem?_cons_succ, stub_get (p :: r) i, List.getElem?_cons_succ]
   simp only [List.length_cons, Nat.add_right_cancel_iff]
def lastB (md : Region.Mode) (o : List Oper) : Bool :=
 (List.range (o.length - 1)).all fun j => (List.range o.length).any fun k => decide (j < k) && (match o[k]? with | some x => x.after.any fun e => Region.binds md e && e.on == j | none => false)
theorem lastB_spec {md : Region.Mode} {o : List Oper} (h : lastB md o = true) {j : Nat} (hj : j + 1 < o.length) : ∃ k x e, j < k ∧ o[k]? = some x ∧ e ∈ x.after ∧ Region.binds md e = true ∧ e.on = j := by
 unfold lastB at h
 rw [List.all_eq_true] at h
 have h1 := h j (List.mem_range.2 (by omega))
 rw [List.any_eq_true] at h1
 obtain ⟨k, hk, h2⟩ := h1
 simp only [Bool.and_eq_true, decide_eq_true_eq] at h2
 obtain ⟨h2, h3⟩ := h2
 cases hx : o[k]? with
 | none => simp [hx] at h3
 | some x =>
  simp only [hx, Array.any_eq_true'] at h3
  obtain ⟨e, he, h4⟩ := h3
  simp only [Bool.and_eq_true, beq_iff_eq] at h4
  exact ⟨k, x, e, h2, hx, he, h4.1, h4.2⟩
def Closed (md : Region.Mode) (o : List Oper) (listed : Array Bool) : Prop := ∀ i x, o[i]? = some x → listed.getD i false = true → ∀ e ∈ x.after, Region.binds md e = true → listed.getD e.on false = true
theorem Closed.set {md : Region.Mode} {o : List Oper} {listed : Array Bool} (h : Closed md o listed) {i : Nat} {x : Oper} (hi : o[i]? = some x) (hr : ∀ e ∈ x.after, Region.binds md e = true → listed.getD e.on false = true) : Closed md o (listed.setIfInBounds i true) := by
 intro j y hj hl e he hb
 by_cases hij : i = j
 ·subst hij
  rw [hi] at hj
  injection hj with hj
  subst hj
  exact getD_set_true (hr e he hb)
 rw [getD_set_ne false hij] at hl
 exact getD_set_true (h j y hj hl e he hb)
theorem lastB_all {md : Region.Mode} {o : List Oper} (h : lastB md o = true) {listed : Array Bool} (hc : Closed md o listed) {z : Nat} {x : Oper} (hz : z + 1 = o.length) (hx : o[z]? = some x) (hr : ∀ e ∈ x.after, Region.binds md e = true → listed.getD e.on false = true) : ∀ d j, j + d = z → 0 < d → listed.getD j false = true := by
 intro d
 induction d using Nat.strongRecOn with
 | _ d ih =>
  intro j hj hd
  obtain ⟨k, y, e, hjk, hy, he, hb, rfl⟩ := lastB_spec h (j := j) (by omega)
  have hk : k < o.length := by
   rcases Nat.lt_or_ge k o.length with h1 | h1
   ·exact h1
   rw [List.getElem?_eq_none h1] at hy; cases hy
  by_cases hkz : k = z
  ·subst hkz
   rw [hx] at hy
   injection hy with hy
   subst hy
   exact hr e he hb
  exact hc k y hy (ih (z - k) (by omega) k (by omega) (by omega)) e he hb
theorem yielded_stub (o : List Oper) (tmps : Array Value) (hd : ∀ x, o[o.length - 1]? = some x → x.dst = none) : yielded (stub o).toArray tmps = yielded o.toArray tmps := by
 funext j
 unfold yielded
 simp only [List.getElem?_toArray, stub_get]
 have e : ((if j + 1 = o.length then Option.map idle o[j]? else o[j]?).bind fun x => x.dst) = (o[j]?.bind fun x => x.dst) := by
  by_cases hj : j + 1 = o.length
  ·rw [if_pos hj]
   cases hx : o[j]? with
   | none => rfl
   | some x =>
    have := hd x (by rw [← hx, ← hj]; rfl)
    simp [idle, this]
  rw [if_neg hj]
 rw [e]
theorem ready_stub (md : Region.Mode) (o : List Oper) (listed : Array Bool) : Region.ready md (stub o).toArray listed = Region.ready md o.toArray listed := by
 unfold Region.ready
 simp only [List.size_toArray, stub_length]
 congr 1
 funext i
 congr 2
 simp only [List.getElem?_toArray, stub_get]
 split
 ·cases o[i]? <;> rfl
 rfl
def forwB (o : List Oper) : Bool := (List.range o.length).all fun k => match o[k]? with | some x => x.after.all fun e => decide (e.on < k) | none => true
theorem forwB_ready {o : List Oper} (hf : forwB o = true) {listed : Array Bool} (hs : listed.size = o.length) {z : Nat} (hz : listed.getD z true = false) : ∃ i, i ∈ Region.ready .any o.toArray listed := by
 obtain ⟨m, hm, hmin⟩ := least (p := fun j => listed.getD j true = false) ⟨z, hz⟩
 have hml : m < listed.size := by
  rcases Nat.lt_or_ge m listed.size with h | h
  ·exact h
  simp [Array.getElem?_eq_none h] at hm
 have hmo : m < o.length := by omega
 refine ⟨m, mem_ready.2 ⟨hm, o[m], by simp [hmo], fun e he _ => ?_⟩⟩
 unfold forwB at hf
 rw [List.all_eq_true] at hf
 have h1 := hf m (List.mem_range.2 hmo)
 rw [List.getElem?_eq_getElem hmo] at h1
 simp only [Array.all_eq_true'] at h1
 have h2 : e.on < m := by simpa using h1 e he
 have h3 : ¬ listed.getD e.on true = false := fun h => by have := hmin _ h; omega
 have h4 : e.on < listed.size := by omega
 simp only [Array.getD_eq_getD_getElem?, Array.getElem?_eq_getElem h4, Option.getD_some] at h3 ⊢
 simpa using h3
theorem any_of_stub {o : List Oper} {st : Oper} (hz : o[o.length - 1]? = some st) (hd : st.dst = none) (hg : st.guard = none) (hl : lastB .any o = true) (hf : forwB o = true) {Qp : Act → Prop}
 (hQ : ∀ a w, Cl w → Qp a → wpOp P o.toArray Q (o.length - 1) (fun a' w' => Q .normal a' w') a w) :
 ∀ (fuel : Nat) (listed : Array Bool) (a : Act) (w : World), Cl w → listed.size = o.length → Closed .any o listed → listed.getD (o.length - 1) true = false → wpAnyQ P .any (stub o).toArray Cl Qp fuel listed a → wpAny P .any o.toArray Q fuel listed a w := by
 have hdo : ∀ x, o[o.length - 1]? = some x → x.dst = none := fun x hx => by rw [hz] at hx; injection hx with hx; subst hx; exact hd
 intro fuel
 induction fuel with
 | zero =>
  intro listed a w _ hsz _ hzl h
  obtain ⟨i, hi⟩ := forwB_ready hf hsz hzl
  have := h.1
  rw [ready_stub] at this
  rw [this] at hi; cases hi
 | succ fuel ih =>
  intro listed a w hw hsz hc hzl h
  refine ⟨fun h0 => ?_, fun i hi => ?_⟩
  ·obtain ⟨i, hi⟩ := forwB_ready hf hsz hzl
   rw [h0] at hi; cases hi
  have h2 := h.2 i (by rw [ready_stub]; exact hi)
  obtain ⟨hun, x, hx, hall⟩ := mem_ready.1 hi
  have hxl : o[i]? = some x := by simpa using hx
  have hil : i < o.length := by
   rcases Nat.lt_or_ge i o.length with h1 | h1
   ·exact h1
   rw [List.getElem?_eq_none h1] at hxl; cases hxl
  by_cases hiz : i = o.length - 1
  ·subst hiz
   have hd2 := lastB_all hl hc (z := o.length - 1) (by omega) hxl hall
   have hready : Region.ready .any o.toArray (listed.setIfInBounds (o.length - 1) true) = [] := by
    cases hq : Region.ready .any o.toArray (listed.setIfInBounds (o.length - 1) true) with
    | nil => rfl
    | cons j r =>
     exfalso
     have hj : j ∈ Region.ready .any o.toArray (listed.setIfInBounds (o.length - 1) true) := by rw [hq]; simp
     obtain ⟨hjn, y, hy, -⟩ := mem_ready.1 hj
     have hjl : j < o.length := by
      have : j < o.toArray.size := (Array.getElem?_eq_some_iff.1 hy).1
      simpa using this
     by_cases hjz : j = o.length - 1
     ·subst hjz
      have hsl : o.length - 1 < listed.size := by omega
      simp [hsl] at hjn
     rw [getD_set_ne true (fun e => hjz e.symm)] at hjn
     have h5 := hd2 (o.length - 1 - j) j (by omega) (by omega)
     have hjs : j < listed.size := by omega
     simp [hjs] at hjn h5
     rw [h5] at hjn; cases hjn
   have hqa : Qp a := by
    unfold qOp at h2
    have e1 : (stub o).toArray[o.length - 1]? = some (idle st) := by
     rw [List.getElem?_toArray, stub_get, if_pos (by omega), hz]; rfl
    simp only [e1] at h2
    rw [if_pos (by simp [Region.wanted, idle, hg])] at h2
    obtain ⟨v, -, h3⟩ := h2
    have h4 : wpAnyQ P .any (stub o).toArray Cl Qp fuel (listed.setIfInBounds (o.length - 1) true) a := h3
    cases fuel with
    | zero => exact h4.2
    | succ f => exact h4.1 (by rw [ready_stub]; exact hready)
   refine wpOp_mono (fun a' w' hq' => ?_) (hQ a w hw hqa)
   cases fuel with
   | zero => exact ⟨hready, hq'⟩
   | succ f => exact ⟨fun _ => hq', by rw [hready]; simp⟩
  have h3 : qOp P o.toArray Cl i (wpAnyQ P .any (stub o).toArray Cl Qp fuel (listed.setIfInBounds i true)) a := by
   unfold qOp at h2 ⊢
   have e1 : (stub o).toArray[i]? = o.toArray[i]? := by
    rw [List.getElem?_toArray, List.getElem?_toArray, stub_get, if_neg (by omega)]
   rw [e1, yielded_stub o _ hdo] at h2
   exact h2
  refine wpOp_of_qOp hw (fun a' w' hw' h4 => ?_) h3
  exact ih _ a' w' hw' (by simpa using hsz) (hc.set hxl hall) (by rw [getD_set_ne true hiz]; exact hzl) h4
theorem C.drawSt {id : Nat} {o : List Oper} {st : Oper} (Cl : World → Prop) (hm : P.follows .mixedOrders = true) (hB : Region.lexB .any (stub o).toArray = true) (hlf : (lastB .any o && forwB o) = true) (hz : o[o.length - 1]? = some st) (hdg : st.dst = none ∧ st.guard = none) (hC : Cl { w with drawn := w.drawn + 1 })
 (h : Wq P (stub o).toArray Cl (fun a' => ∀ w', Cl w' → wpList P o.toArray Q [st] a' w') n (stub o) l) : C P (.region id o.toArray true) Q n l w := by
 intro a ha
 simp only [Bool.and_eq_true] at hlf
 simp only [Region.lexB, Bool.and_eq_true] at hB
 have hne : 0 < o.length := by
  rcases Nat.eq_zero_or_pos o.length with h0 | h0
  ·rw [List.getElem?_eq_none (by omega)] at hz; cases hz
  exact h0
 refine wp_region_any hm ?_
 have h1 := wpAnyQ_lex (C := Cl) (md := .any) hB.1 (stub o) 0 (Array.replicate (stub o).toArray.size false) a (by simp) (by simpa using hB.2) (h a ha)
 refine any_of_stub hz hdg.1 hdg.2 hlf.1 hlf.2 (Qp := fun a' => ∀ w', Cl w' → wpList P o.toArray Q [st] a' w') ?_ _ _ _ _ hC (by simp) ?_ ?_ (by simpa [stub_length] using h1)
 ·intro a' w' hw' hq
  have h2 := hq w' hw'
  unfold wpList at h2
  unfold wpOp
  have e : o.toArray[o.length - 1]? = some st := by simpa using hz
  simp only [e]
  have hwt : Region.wanted st (yielded o.toArray a'.tmps) = true := by simp [Region.wanted, hdg.2]
  rw [if_pos hwt] at h2 ⊢
  exact h2
 ·intro i x _ hl
  exfalso
  rcases Nat.lt_or_ge i o.length with hi | hi
  ·simp [hi] at hl
  simp [hi] at hl
 have h9 : o.length - 1 < o.length := by omega
 simp [h9]
theorem Wq.last {ops ops0 : Array Oper} {o st : Oper} {v : Value} (hr : ∀ w, Cl w → Runs P n l o w (.value v) w) (hg : o.guard = none) (hd : o.dst = none) (h : ∀ w', Cl w' → W P ops0 Q n [st] l w') : Wq P ops Cl (fun a' => ∀ w', Cl w' → wpList P ops0 Q [st] a' w') n [o] l := by
 intro a ha
 unfold wpQuiet
 rw [if_pos (by simp [Region.wanted, hg])]
 refine ⟨v, fun w hw => ?_, ?_⟩
 ·unfold Oper.quietAt
  rw [hr w hw a ha]
  exact ⟨rfl, rfl⟩
 rw [hd]
 exact fun w' hw' => h w' hw' a ha
theorem C.scope {x : Code} (h : C P x (Exit.noGoto Q) n l w) : C P (.scope x) Q n l w := fun a ha => wp_scope_straight (h a ha)
theorem At.noRet (h : At Q .ret n l w) : At (Exit.noGoto Q) .ret n l w := h
def Gto (rk : Nat → Nat) (J : Nat → Fr → World → Prop) (n r : Nat) (Q : Post) : Post
 | .goto k, a, w => rk k < r ∧ ∃ l, On n l a ∧ J k l w
 | e, a, w => Q e a w
theorem C.scopeF {x : Code} (rk : Nat → Nat) (J : Nat → Fr → World → Prop) (r : Nat) (first : C P x (Gto rk J n r Q) n l w)
 (pass : ∀ k l w, J k l w → ∃ rest, findLabel x k = some rest ∧ C P rest (Gto rk J n (rk k) Q) n l w) : C P (.scope x) Q n l w := by
 intro a ha b k cs
 have key : ∀ r (c : Code) a w, c.wp P (Gto rk J n r Q) a w → ∃ e a' w', Q e a' w' ∧ Arrives P (lone (b.at a (.code c :: .inScope x :: k)) cs w) b k cs e a' w' := by
  intro r
  induction r using Nat.strongRecOn with
  | _ r ih =>
   intro c a w hc
   obtain ⟨e, a1, w1, hq, harr⟩ := hc b (.inScope x :: k) cs
   cases e with
   | normal => exact ⟨.normal, a1, w1, hq, Steps.trans harr (.one step_inScope)⟩
   | exit id => exact ⟨.exit id, a1, w1, hq, fun k' hk => harr k' (by simp [exitTo, hk])⟩
   | goto l' =>
    obtain ⟨hlt, l2, hon, hJ⟩ := hq
    obtain ⟨rest, hf, hp⟩ := pass l' l2 w1 hJ
    obtain ⟨e2, a2, w2, hq2, harr2⟩ := ih _ hlt rest a1 w1 (hp a1 hon)
    have hg : gotoIn l' (.inScope x :: k) = some (.code rest :: .inScope x :: k) := by simp [gotoIn, hf]
    exact ⟨e2, a2, w2, hq2, .of_steps (harr _ hg) harr2⟩
   | ret => exact ⟨_, a1, w1, hq, harr⟩
   | panic ch => exact ⟨_, a1, w1, hq, harr⟩
   | outgrown => exact ⟨_, a1, w1, hq, harr⟩
 obtain ⟨e, a1, w1, hq, harr⟩ := key r x a w (first a ha)
 exact ⟨e, a1, w1, hq, .of_steps (.one step_scope) harr⟩
theorem At.jump {rk : Nat → Nat} {J : Nat → Fr → World → Prop} {r k : Nat} (l' : Fr) (hs : Sub l l') (hk : Nat.blt (rk k) r = true) (h : J k l' w) : At (Gto rk J n r Q) (.goto k) n l w :=
 fun a ha => ⟨by simpa [Nat.blt_eq] using hk, l', ha.sub hs, h⟩
theorem At.gtoRet {rk : Nat → Nat} {J : Nat → Fr → World → Prop} {r : Nat} (h : At Q .ret n l w) : At (Gto rk J n r Q) .ret n l w := h
end
section
variable [Df]
variable {P : Program} {Q : Post} {ops : Array Oper} {rest : List Oper} {n : Nat} {l : Fr} {w w' : World} {v : Value} {dst : Option Nat} {d : Nat} {ty : TypeId} {pos : String} {af : Array Edge} {g : Option (Nat × Bool)} {x y z : Operand} {b k : Nat} {t u : TypeId} {cs : List Value}
def arElem (P : Program) (t : TypeId) : Option (Nat × Nat) :=
 match P.underlying t with
 | some (.array m e) => (P.info? e).map fun i => (m, i.size)
 | _ => none
theorem R.idxP {off m sz : Nat} {kd : IntKind} {i : Int} (hx : ev l x = some (.pointer (some ⟨b, off, none⟩))) (hy : ev l y = some (.int kd i)) (j : Nat) (hj : i = (j : Int)) (hlt : j < m) (hs : arElem P t = some (m, sz)) :
 Runs P n l ⟨dst, .indexAddr t x y, ty, pos, af, g⟩ w (.value (.pointer (some ⟨b, off + j * sz, none⟩))) w := fun a ha => by
 subst hj
 unfold arElem at hs
 cases hu : P.underlying t with
 | none => simp [hu] at hs
 | some dd =>
  cases dd <;> simp only [hu] at hs <;> try (cases hs; done)
  rename_i m' e
  cases hi : P.info? e with
  | none => simp [hi] at hs
  | some ie =>
   simp only [hi, Option.map_some, Option.some.injEq, Prod.mk.injEq] at hs
   obtain ⟨rfl, rfl⟩ := hs
   simp only [execOp, ha.ev hx, ha.ev hy]
   simp [Instr.indexAt, asIntOf, run_underlying hu, hlt, sizeOf, typeInfo, hi, Instr.sureAddr, addr_add]
def isIfc (P : Program) (t : TypeId) : Option Bool := (P.underlying t).map fun d => match d with | .interface _ => true | _ => false
theorem R.mkI (hx : ev l x = some v) (hi : isIfc P t = some false) : Runs P n l ⟨dst, .makeInterface t x, ty, pos, af, g⟩ w (.value (.iface t v)) w := fun a ha => by
 unfold isIfc at hi
 cases hu : P.underlying t with
 | none => simp [hu] at hi
 | some dd =>
  simp only [execOp, ha.ev hx]
  cases dd <;> simp_all [Instr.makeInterface, run_underlying hu]
end
section
variable [Df]
variable {P : Program} {Q : Post} {n : Nat} {l l' : Fr} {w w' : World} {ops : Array Oper} {rest rest' : List Oper} {o : Oper} {v : Value} {d : Nat} {x y z : Operand} {Cl : World → Prop}
def plainV (l : Fr) : Op → Option Value
 | .move x => ev l x
 | .assign x => ev l x
 | .nilCheck x => match ev l x with
  | some (.pointer (some p)) => some (.pointer (some p))
  | _ => none
 | .extract x i => match ev l x with
  | some (.tuple vs) => vs[i]?
  | _ => none
 | .pick z x y => match ev l z with
  | some (.bool true) => ev l x
  | some (.bool false) => ev l y
  | _ => none
 | .unOp .not _ x => match ev l x with
  | some (.bool b) => some (.bool !b)
  | _ => none
 | _ => none
theorem plainV_runs {dst : Option Nat} {op : Op} {ty : TypeId} {pos : String} {af : Array Edge} {g : Option (Nat × Bool)} (h : plainV l op = some v) : Runs P n l ⟨dst, op, ty, pos, af, g⟩ w (.value v) w := by
 unfold plainV at h
 split at h
 ·exact R.move h
 ·exact R.assign h
 ·split at h
  ·rename_i hx
   simp only [Option.some.injEq] at h
   subst h
   exact R.nilPtr hx
  cases h
 ·split at h
  ·rename_i hx
   exact R.extract hx h
  cases h
 ·split at h
  ·rename_i hz
   exact R.pickT hz h
  ·rename_i hz
   exact R.pickF hz h
  cases h
 ·split at h
  ·rename_i hx
   simp only [Option.some.injEq] at h
   subst h
   exact R.not hx
  cases h
 cases h
def oneV (ops : Array Oper) (l : Fr) (o : Oper) : Option Value :=
 match o.guard with
 | none => plainV l o.op
 | some (j, c) => match gval ops l j with
  | some b => bif b == c then plainV l o.op else some undef
  | none => bif gnone ops l j then some undef else none
def runP (ops : Array Oper) (n : Nat) : Nat → List Oper → Fr → Option (List Oper × Fr)
 | 0, rest, l => some (rest, l)
 | _ + 1, [], _ => none
 | k + 1, o :: rest, l => match o.dst with
  | none => none
  | some d => match Nat.blt d n with
   | false => none
   | true => match oneV ops l o with
    | none => none
    | some v => runP ops n k rest ((d, v) :: l)
theorem W.one (hd : o.dst = some d) (hdn : Nat.blt d n = true) (hv : oneV ops l o = some v) (h : W P ops Q n rest ((d, v) :: l) w) : W P ops Q n (o :: rest) l w := by
 obtain ⟨dst, op, ty, pos, af, g⟩ := o
 unfold oneV at hv
 split at hv
 ·rename_i hg
  exact W.q (plainV_runs hv) hg hd hdn h
 rename_i j c hg
 have hg' : g = some (j, c) := hg
 subst hg'
 split at hv
 ·rename_i b hb
  cases hbc : b == c with
  | true =>
   rw [hbc] at hv
   have : b = c := by simpa using hbc
   subst this
   exact W.gq hb (plainV_runs hv) rfl hd hdn h
  | false =>
   rw [hbc] at hv
   simp only [cond_false, Option.some.injEq] at hv
   subst hv
   exact W.gskip hb rfl hbc hd hdn h
 cases hn : gnone ops l j with
 | true =>
  rw [hn] at hv
  simp only [cond_true, Option.some.injEq] at hv
  subst hv
  exact W.gskipU hn rfl hd hdn h
 | false => rw [hn] at hv; cases hv
theorem Wq.one {Q : Act → Prop} (hd : o.dst = some d) (hdn : Nat.blt d n = true) (hv : oneV ops l o = some v) (h : Wq P ops Cl Q n rest ((d, v) :: l)) : Wq P ops Cl Q n (o :: rest) l := by
 obtain ⟨dst, op, ty, pos, af, g⟩ := o
 unfold oneV at hv
 split at hv
 ·rename_i hg
  exact Wq.q (fun _ _ => plainV_runs hv) hg hd hdn h
 rename_i j c hg
 have hg' : g = some (j, c) := hg
 subst hg'
 split at hv
 ·rename_i b hb
  cases hbc : b == c with
  | true =>
   rw [hbc] at hv
   have : b = c := by simpa using hbc
   subst this
   exact Wq.gq hb (fun _ _ => plainV_runs hv) rfl hd hdn h
  | false =>
   rw [hbc] at hv
   simp only [cond_false, Option.some.injEq] at hv
   subst hv
   exact Wq.gskip hb rfl hbc hd hdn h
 cases hn : gnone ops l j with
 | true =>
  rw [hn] at hv
  simp only [cond_true, Option.some.injEq] at hv
  subst hv
  exact Wq.gskipU hn rfl hd hdn h
 | false => rw [hn] at hv; cases hv
theorem pr (k : Nat) (hr : runP ops n k rest l = some (rest', l')) (h : W P ops Q n rest' l' w) : W P ops Q n rest l w := by
 induction k generalizing rest l with
 | zero =>
  simp only [runP, Option.some.injEq, Prod.mk.injEq] at hr
  obtain ⟨rfl, rfl⟩ := hr
  exact h
 | succ k ih =>
  cases rest with
  | nil => cases hr
  | cons o rest =>
   simp only [runP] at hr
   split at hr
   ·cases hr
   rename_i d hd
   split at hr
   ·cases hr
   rename_i hdn
   split at hr
   ·cases hr
   rename_i v hv
   exact W.one hd hdn hv (ih hr)
theorem prq {Q : Act → Prop} (k : Nat) (hr : runP ops n k rest l = some (rest', l')) (h : Wq P ops Cl Q n rest' l') : Wq P ops Cl Q n rest l := by
 induction k generalizing rest l with
 | zero =>
  simp only [runP, Option.some.injEq, Prod.mk.injEq] at hr
  obtain ⟨rfl, rfl⟩ := hr
  exact h
 | succ k ih =>
  cases rest with
  | nil => cases hr
  | cons o rest =>
   simp only [runP] at hr
   split at hr
   ·cases hr
   rename_i d hd
   split at hr
   ·cases hr
   rename_i hdn
   split at hr
   ·cases hr
   rename_i v hv
   exact Wq.one hd hdn hv (ih hr)
def okD (o : Oper) (n : Nat) : Option Nat :=
 match o.guard, o.dst with
 | none, some d => bif Nat.blt d n then some d else none
 | _, _ => none
theorem okD_spec (h : okD o n = some d) : o.guard = none ∧ o.dst = some d ∧ Nat.blt d n = true := by
 unfold okD at h
 split at h
 ·rename_i d' hg hd
  cases hb : Nat.blt d' n with
  | true =>
   rw [hb] at h
   simp only [cond_true, Option.some.injEq] at h
   subst h
   exact ⟨hg, hd, hb⟩
  | false => rw [hb] at h; cases h
 cases h
def okG (ops : Array Oper) (l : Fr) (o : Oper) (n : Nat) : Option Nat :=
 match o.guard, o.dst with
 | some (j, c), some d => match gval ops l j with
  | some b => bif b == c then (bif Nat.blt d n then some d else none) else none
  | none => none
 | _, _ => none
theorem okG_spec (h : okG ops l o n = some d) : ∃ j b, gval ops l j = some b ∧ o.guard = some (j, b) ∧ o.dst = some d ∧ Nat.blt d n = true := by
 unfold okG at h
 split at h
 ·rename_i j c d' hg hd
  split at h
  ·rename_i b hb
   cases hbc : b == c with
   | true =>
    rw [hbc] at h
    have : b = c := by simpa using hbc
    subst this
    cases hbl : Nat.blt d' n with
    | true =>
     rw [hbl] at h
     simp only [cond_true, Option.some.injEq] at h
     subst h
     exact ⟨j, b, hb, hg, hd, hbl⟩
    | false => rw [hbl] at h; cases h
   | false => rw [hbc] at h; cases h
  cases h
 cases h
theorem W.qq (hr : Runs P n l o w (.value v) w') (ho : okD o n = some d) (h : W P ops Q n rest ((d, v) :: l) w') : W P ops Q n (o :: rest) l w :=
 W.q hr (okD_spec ho).1 (okD_spec ho).2.1 (okD_spec ho).2.2 h
theorem W.gg (hr : Runs P n l o w (.value v) w') (ho : okG ops l o n = some d) (h : W P ops Q n rest ((d, v) :: l) w') : W P ops Q n (o :: rest) l w := by
 obtain ⟨j, b, h1, h2, h3, h4⟩ := okG_spec ho
 exact W.gq h1 hr h2 h3 h4 h
theorem Wq.qq {Q : Act → Prop} (hr : ∀ w, Cl w → Runs P n l o w (.value v) w) (ho : okD o n = some d) (h : Wq P ops Cl Q n rest ((d, v) :: l)) : Wq P ops Cl Q n (o :: rest) l :=
 Wq.q hr (okD_spec ho).1 (okD_spec ho).2.1 (okD_spec ho).2.2 h
theorem Wq.gg {Q : Act → Prop} (hr : ∀ w, Cl w → Runs P n l o w (.value v) w) (ho : okG ops l o n = some d) (h : Wq P ops Cl Q n rest ((d, v) :: l)) : Wq P ops Cl Q n (o :: rest) l := by
 obtain ⟨j, b, h1, h2, h3, h4⟩ := okG_spec ho
 exact Wq.gq h1 hr h2 h3 h4 h
abbrev qq := @W.qq
abbrev gg := @W.gg
abbrev qw := @Wq.qq
abbrev gw := @Wq.gg
def evD (l : Fr) (n d : Nat) (x : Operand) : Option Value := bif Nat.blt d n then ev l x else none
theorem evD_spec (h : evD l n d x = some v) : ev l x = some v ∧ Nat.blt d n = true := by
 unfold evD at h
 cases hb : Nat.blt d n with
 | true => rw [hb] at h; exact ⟨h, rfl⟩
 | false => rw [hb] at h; cases h
def evLD (l : Fr) (n d : Nat) (xs : List Operand) : Option (List Value) := bif Nat.blt d n then evL l xs else none
theorem evLD_spec {xs : List Operand} {vs : List Value} (h : evLD l n d xs = some vs) : evL l xs = some vs ∧ Nat.blt d n = true := by
 unfold evLD at h
 cases hb : Nat.blt d n with
 | true => rw [hb] at h; exact ⟨h, rfl⟩
 | false => rw [hb] at h; cases h
variable {ty t : TypeId} {pos : String} {af : Array Edge} {b k f : Nat} {cs : List Value} {u : TypeId}
theorem fA {o : Nat} (hf : fieldOff P t f = some o) (hx : evD l n d x = some (.pointer (some ⟨b, k, none⟩))) (h : W P ops Q n rest ((d, .pointer (some ⟨b, k + o, none⟩)) :: l) w) : W P ops Q n (⟨some d, .fieldAddr t x f, ty, pos, af, none⟩ :: rest) l w :=
 W.q (R.fieldAddr hf (evD_spec hx).1) rfl rfl (evD_spec hx).2 h
theorem lD (hs : scalar P t = true) (hb : Blk w b u cs) (hx : evD l n d x = some (.pointer (some ⟨b, k, none⟩))) (hv : cs[k]? = some v) (h : W P ops Q n rest ((d, v) :: l) w) : W P ops Q n (⟨some d, .load t x, ty, pos, af, none⟩ :: rest) l w :=
 W.q (R.load hs (evD_spec hx).1 hb hv) rfl rfl (evD_spec hx).2 h
theorem fQ {o : Nat} {Q : Act → Prop} (hf : fieldOff P t f = some o) (hx : evD l n d x = some (.pointer (some ⟨b, k, none⟩))) (h : Wq P ops Cl Q n rest ((d, .pointer (some ⟨b, k + o, none⟩)) :: l)) : Wq P ops Cl Q n (⟨some d, .fieldAddr t x f, ty, pos, af, none⟩ :: rest) l :=
 Wq.q (fun _ _ => R.fieldAddr hf (evD_spec hx).1) rfl rfl (evD_spec hx).2 h
theorem lQ {w0 : World} {Q : Act → Prop} (hs : scalar P t = true) (hb : Blk w0 b u cs) (hx : evD l n d x = some (.pointer (some ⟨b, k, none⟩))) (hv : cs[k]? = some v) (h : Wq P ops (fun w' => Gr w0 w' none) Q n rest ((d, v) :: l)) : Wq P ops (fun w' => Gr w0 w' none) Q n (⟨some d, .load t x, ty, pos, af, none⟩ :: rest) l :=
 Wq.q (fun _ hw => R.load hs (evD_spec hx).1 (hb.grN hw) hv) rfl rfl (evD_spec hx).2 h
theorem aS {s r : List UInt8} {t u : TypeId} (hx : ev l x = some (str s)) (hy : evD l n d y = some (str r)) (h : W P ops Q n rest ((d, str (s ++ r)) :: l) w) (hb : s.length + r.length < 9223372036854775808 := by first | omega | (simp only [List.length_append, List.length_cons, List.length_nil, List.length_take, List.length_drop] at *; omega)) : W P ops Q n (⟨some d, .binOp .add t x y u, ty, pos, af, none⟩ :: rest) l w :=
 W.q (R.addS hx (evD_spec hy).1 hb) rfl rfl (evD_spec hy).2 h
theorem aK {a : Nat} {t u : TypeId} (hx : ev l x = some (.int .i64 (a : Int))) (hy : evD l n d y = some (.int .i64 ((1 : Nat) : Int))) (h : W P ops Q n rest ((d, .int .i64 ((a + 1 : Nat) : Int)) :: l) w) (hb : a + 1 < 9223372036854775808 := by omega) : W P ops Q n (⟨some d, .binOp .add t x y u, ty, pos, af, none⟩ :: rest) l w :=
 W.q (R.addK 1 hx (evD_spec hy).1 hb) rfl rfl (evD_spec hy).2 h
def stO (l : Fr) (x y : Operand) (cs : List Value) : Option (Nat × Nat × Value) :=
 match ev l x, ev l y with
 | some (.pointer (some ⟨b, k, none⟩)), some v => bif v.oneCell' then (match cs[k]? with | some _ => some (b, k, v) | none => none) else none
 | _, _ => none
theorem stO_spec (h : stO l x y cs = some (b, k, v)) : ev l x = some (.pointer (some ⟨b, k, none⟩)) ∧ ev l y = some v ∧ v.oneCell' = true ∧ ∃ v0, cs[k]? = some v0 := by
 unfold stO at h
 split at h
 ·rename_i b' k' v' hx hy
  cases ho : v'.oneCell' with
  | true =>
   rw [ho] at h
   simp only [cond_true] at h
   split at h
   ·rename_i v0 hv0
    simp only [Option.some.injEq, Prod.mk.injEq] at h
    obtain ⟨rfl, rfl, rfl⟩ := h
    exact ⟨hx, hy, ho, v0, hv0⟩
   cases h
  | false => rw [ho] at h; cases h
 cases h
theorem sT (hs : scalar P t = true) (hb : Blk w b u cs) (ho : stO l x y cs = some (b, k, v)) (h : ∀ w', Blk w' b u (cs.set k v) → Gr w w' (some b) → W P ops Q n rest l w') : W P ops Q n (⟨none, .store t x y, ty, pos, af, none⟩ :: rest) l w := by
 obtain ⟨h1, h2, h3, v0, h4⟩ := stO_spec ho
 exact W.store hs h1 h2 h3 hb h4 h
variable {X Y : Code}
theorem cD {c : Operand} {p : Prop} {i : Decidable p} (hc : ev l c = some (.bool (@decide p i))) (ht : p → C P X Q n l w) (hf : ¬ p → C P Y Q n l w) : C P (.cond c X Y) Q n l w :=
 C.cond hc (fun h => ht (of_decide_eq_true h)) (fun h => hf (of_decide_eq_false h))
def selF (l : Fr) : Fr → Option Fr
 | [] => some []
 | (k, _) :: r => match look l k with
  | none => none
  | some v => match selF l r with
   | none => none
   | some s => some ((k, v) :: s)
theorem selF_spec : ∀ {r : Fr}, selF l r = some r → Sub l r
 | [], _ => trivial
 | (k, u) :: r, h => by
  unfold selF at h
  split at h
  ·cases h
  rename_i v hv
  split at h
  ·cases h
  rename_i s hs
  simp only [Option.some.injEq, List.cons.injEq, Prod.mk.injEq, true_and] at h
  obtain ⟨rfl, rfl⟩ := h
  exact ⟨hv, selF_spec hs⟩
theorem cT {M : Fr → World → Prop} (r : Fr) (hs : selF l r = some r) (h : M r w) : At (Exit.then (Mid n M) Q) .normal n l w := At.cut r (selF_spec hs) h
theorem sB (r : Fr) (hs : selF l r = some r) (h : C P X Q n r w) : C P X Q n l w := C.sub r (selF_spec hs) h
end
section
variable {P : Program} {Q : Post} {n : Nat} {l : Fr} {w : World} {ops : Array Oper} {rest : List Oper} {d : Nat} {ty : TypeId} {pos : String} {af : Array Edge}
theorem eN {f : FuncId} {args : List Operand} {vs : List Value} {tys : Array TypeId} {RR : Value → World → Prop} (he : enters P f = true) (ha : evLD l n d args = some vs) (hc : CR P f vs w RR) (h : ∀ v w'', RR v w'' → W P ops Q n rest ((d, v) :: l) w'') : W P ops Q n (⟨some d, .call ⟨.value (.func f), args.toArray, tys⟩, ty, pos, af, none⟩ :: rest) l w :=
 W.enter (R.call he (evLD_spec ha).1) rfl rfl (evLD_spec ha).2 hc h
theorem gN {f : FuncId} {args : List Operand} {vs : List Value} {tys : Array TypeId} {RR : Value → World → Prop} {j : Nat} {b : Bool} (hg : gval ops l j = some b) (he : enters P f = true) (ha : evLD l n d args = some vs) (hc : CR P f vs w RR) (h : ∀ v w'', RR v w'' → W P ops Q n rest ((d, v) :: l) w'') : W P ops Q n (⟨some d, .call ⟨.value (.func f), args.toArray, tys⟩, ty, pos, af, some (j, b)⟩ :: rest) l w :=
 W.genter hg (R.call he (evLD_spec ha).1) rfl rfl (evLD_spec ha).2 hc h
theorem dR {id : Nat} {o : List Oper} (h : Wq PR o.toArray (fun w' => Gr w w' none) (fun a' => ∀ w', Gr w w' none → Q .normal a' w') n o l) (hB : Region.lexB .any o.toArray = true := by kernel_rfl) : C PR (.region id o.toArray true) Q n l w :=
 C.draw (fun w' => Gr w w' none) mixed hB (Gr.drew _ _) h
end
end Eng
theorem bI {a b : Bool} (h : a = true ↔ b = true) : Value.bool a = Value.bool b := congrArg Value.bool (Bool.eq_iff_iff.2 h)
theorem sU (m : Nat) (h : 0 < m := by omega) : ∃ k, m = k + 1 := ⟨m - 1, by omega⟩
theorem kR {p : Prop} (h : p := by kernel_rfl) : p := h
theorem dC {p : Prop} (h : p := by decide) : p := h
theorem aM {p : Prop} (h : p := by assumption) : p := h
def Rd.cells (r : Rd) : List Value := [str r.s, .int .i64 (r.pos : Int), .bool r.bad, .bool r.uns, .bool r.ps]
abbrev RD (g : Nat) (r : Rd) (w : World) : Prop := Blk w g 38 r.cells
abbrev RK (g : Nat) (s : List UInt8) (p : Nat) (b u ps : Bool) (w : World) : Prop := Blk w g 38 [str s, .int .i64 ((p : Nat) : Int), .bool b, .bool u, .bool ps]
abbrev pP (b : Nat) : Value := .pointer (some ⟨b, 0, none⟩)
theorem au {p : Prop} (h : p := by first | (simp; done) | (simp; omega)) : p := h
theorem al {p : Prop} (h : p := by first | omega | (simp only [List.length_append, List.length_cons, List.length_nil, List.length_take, List.length_drop] at *; omega)) : p := h
theorem om {p : Prop} (h : p := by omega) : p := h
theorem sO {p : Prop} (h : p := by simp only; omega) : p := h
theorem sM {p : Prop} (h : p := by simp; omega) : p := h
theorem okk {p : Prop} (h : p := by simp only [Sp.Ok]; omega) : p := h
theorem dT {p : Prop} {i : Decidable p} (h : @decide p i = true) : p := of_decide_eq_true h
theorem dF {p : Prop} {i : Decidable p} (h : @decide p i = false) : ¬ p := of_decide_eq_false h
theorem spl {α : Type} {f : α × Rd} {s : List UInt8} {p : Nat} {b u ps : Bool} {g : Nat} {w w' : World} {r : Option Nat} {e : α → Value} {v : Value} (hle : Sp.Le ⟨s, p, b, u, ps⟩ f.2) (h : v = e f.1 ∧ RD g f.2 w' ∧ Gr w w' r) :
 ∃ x p' b' u', f = (x, ⟨s, p', b', u', ps⟩) ∧ p ≤ p' ∧ p' ≤ s.length + 1 ∧ (b = true → b' = true) ∧ (u = true → u' = true) ∧ v = e x ∧ RK g s p' b' u' ps w' ∧ Gr w w' r := by
 obtain ⟨x, p', b', u', e1, h1, h2, h3, h4⟩ := Sp.Le.split hle
 subst e1
 exact ⟨x, p', b', u', rfl, h1, h2, h3, h4, h.1, h.2.1, h.2.2⟩
theorem spl2 {f : List UInt8 × Rd} {s : List UInt8} {p : Nat} {b u ps : Bool} {g : Nat} {w w' : World} {r : Option Nat} {e : List UInt8 → Value} {v : Value} (hle : Sp.Le ⟨s, p, b, u, ps⟩ f.2 ∧ f.1.length ≤ 4 * (f.2.pos - p)) (h : v = e f.1 ∧ RD g f.2 w' ∧ Gr w w' r) :
 ∃ x p' b' u', f = (x, ⟨s, p', b', u', ps⟩) ∧ p ≤ p' ∧ p' ≤ s.length + 1 ∧ (b = true → b' = true) ∧ (u = true → u' = true) ∧ x.length ≤ 4 * (p' - p) ∧ v = e x ∧ RK g s p' b' u' ps w' ∧ Gr w w' r := by
 obtain ⟨x, p', b', u', e1, h1, h2, h3, h4⟩ := Sp.Le.split hle.1
 subst e1
 exact ⟨x, p', b', u', rfl, h1, h2, h3, h4, hle.2, h.1, h.2.1, h.2.2⟩
namespace Eng
section
variable [Df]
variable {P : Program} {Q : Post} {n : Nat} {l : Fr} {w : World} {ops : Array Oper} {X Y Z : Code} {K : Act → World → Prop} {id : Nat} {o : List Oper}
theorem ns (h : C P Y Q n l w) : W P ops (Exit.then (Y.wp P Q) Q) n [] l w := W.nil (At.seq h)
theorem qr (h : W P o.toArray (Exit.then (Y.wp P Q) Q) n o l w) : C P (.seq (.region id o.toArray false) Y) Q n l w := C.seq (C.region h)
theorem nsr (h : W P o.toArray Q n o l w) : W P ops (Exit.then ((Code.region id o.toArray false).wp P Q) Q) n [] l w := ns (C.region h)
theorem nsq (h : C P X (Exit.then (Y.wp P Q) Q) n l w) : W P ops (Exit.then ((Code.seq X Y).wp P Q) Q) n [] l w := ns (C.seq h)
theorem nsqr (h : W P o.toArray (Exit.then (Y.wp P Q) Q) n o l w) : W P ops (Exit.then ((Code.seq (.region id o.toArray false) Y).wp P Q) Q) n [] l w := ns (qr h)
theorem nst (h : At Q .ret n l w) : W P ops (Exit.then (Code.ret.wp P Q) Q) n [] l w := ns (C.ret h)
theorem nsth (h : At Q .ret n l w) : W P ops (Exit.then (Code.ret.wp P (Exit.then K Q)) (Exit.then K Q)) n [] l w := nst h
theorem sq (h : C P X (Exit.then (Y.wp P Q) Q) n l w) : At (Exit.then ((Code.seq X Y).wp P Q) Q) .normal n l w := C.seq h
theorem sqr (h : W P o.toArray (Exit.then (Y.wp P Q) Q) n o l w) : At (Exit.then ((Code.seq (.region id o.toArray false) Y).wp P Q) Q) .normal n l w := qr h
theorem ks (h : C P Y Q n l w) : C P .skip (Exit.then (Y.wp P Q) Q) n l w := C.skip h
theorem ksq (h : C P X (Exit.then (Y.wp P Q) Q) n l w) : C P .skip (Exit.then ((Code.seq X Y).wp P Q) Q) n l w := C.skip (C.seq h)
theorem ksqr (h : W P o.toArray (Exit.then (Y.wp P Q) Q) n o l w) : C P .skip (Exit.then ((Code.seq (.region id o.toArray false) Y).wp P Q) Q) n l w := C.skip (qr h)
theorem qqr (h : W P o.toArray (Exit.then (Y.wp P (Exit.then (Z.wp P Q) Q)) (Exit.then (Z.wp P Q) Q)) n o l w) : C P (.seq (.seq (.region id o.toArray false) Y) Z) Q n l w := C.seq (qr h)
theorem nB (h : At Q .normal n l w) : W P ops (Exit.inBlock id Q) n [] l w := h
theorem bS (h : C P Y Q n l w) : At (Exit.inBlock id (Exit.then (Y.wp P Q) Q)) .normal n l w := h
theorem nbs (h : C P Y Q n l w) : W P ops (Exit.inBlock id (Exit.then (Y.wp P Q) Q)) n [] l w := h
end
abbrev rN := @W.nil
abbrev rS := @At.seq
abbrev rQ := @C.seq
abbrev rR := @C.region
abbrev rT := @C.ret
abbrev rH := @At.thenRet
abbrev rK := @C.skip
abbrev rB := @At.blockNormal
abbrev rC := @At.blockRet
abbrev rX := @At.thenExit
abbrev rY := @At.blockExit
abbrev rO := @C.block
abbrev rE := @C.exit
abbrev cF := @C.condF
abbrev cV := @C.condT
abbrev cC := @C.cond
abbrev rA := @At.res1
end Eng
end Go.Proofs.YtogfnbkccfkpoaaGreatDoor
set_option maxRecDepth 100000
namespace Go.Proofs.YtogfnbkccfkpoaaGreatDoor
open Go Go.RowKit
open Eng
theorem isSpace_calls (c : Nat) (w0 : World) :
 CR PR 32 [.int .u8 (c : Int)] w0 fun v w' => v = .bool (Sp.isSpace c) ∧ Gr w0 w' none := by
 have hG : Gr w0 w0 none := Gr.refl _ _
 refine CR.of (n := 21) [(0, .int .u8 (c : Int))] Tryz.func32 rfl Tryz.ntmps32 rfl ⟨rfl, trivial⟩<|qr<|pr 1 rfl<|nsqr<|pr 1 rfl<|W.split (R.eqI rfl rfl) rfl rfl rfl (fun h1 => ?_) (fun h1 => ?_)
 ·refine pr 17 rfl<|nst<|rA rfl rfl ⟨bI ?_, hG⟩
  first | (exfalso; omega) | (simp [Sp.isSpace]; omega)
 refine pr 2 rfl<|gg (R.eqI rfl rfl) rfl<|W.split (R.pickF rfl rfl) rfl rfl rfl (fun h2 => ?_) (fun h2 => ?_)
 ·refine pr 13 rfl<|nst<|rA rfl rfl ⟨bI ?_, hG⟩
  first | (exfalso; omega) | (simp [Sp.isSpace]; omega)
 refine pr 2 rfl<|gg (R.eqI rfl rfl) rfl<|W.split (R.pickF rfl rfl) rfl rfl rfl (fun h3 => ?_) (fun h3 => ?_)
 ·refine pr 9 rfl<|nst<|rA rfl rfl ⟨bI ?_, hG⟩
  first | (exfalso; omega) | (simp [Sp.isSpace]; omega)
 refine pr 2 rfl<|gg (R.eqI rfl rfl) rfl<|W.split (R.pickF rfl rfl) rfl rfl rfl (fun h4 => ?_) (fun h4 => ?_)
 ·refine pr 5 rfl<|nst<|rA rfl rfl ⟨bI ?_, hG⟩
  first | (exfalso; omega) | (simp [Sp.isSpace]; omega)
 refine pr 2 rfl<|gg (R.eqI rfl rfl) rfl<|pr 2 rfl<|nst<|rA rfl rfl ⟨bI ?_, hG⟩
 first | (exfalso; omega) | (simp [Sp.isSpace]; omega)
theorem beginByte_calls (c : Nat) (w0 : World) :
 CR PR 40 [.int .u8 (c : Int)] w0 fun v w' => v = .bool (Sp.beginByte c) ∧ Gr w0 w' none := by
 have hG : Gr w0 w0 none := Gr.refl _ _
 refine CR.of (n := 25) [(0, .int .u8 (c : Int))] Tryz.func40 rfl Tryz.ntmps40 rfl ⟨rfl, trivial⟩<|qr<|pr 1 rfl<|nsqr<|pr 1 rfl<|W.split (R.geI rfl rfl) rfl rfl rfl (fun h1 => ?_) (fun h1 => ?_)
 ·refine pr 2 rfl<|gg (R.leI rfl rfl) rfl<|W.split (R.pickT rfl rfl) rfl rfl rfl (fun h2 => ?_) (fun h2 => ?_)
  ·refine pr 17 rfl<|nst<|rA rfl rfl ⟨bI ?_, hG⟩
   first | (exfalso; omega) | (simp [Sp.beginByte]; omega)
  refine pr 2 rfl<|W.gsplit rfl (R.geI rfl rfl) rfl rfl rfl (fun h3 => ?_) (fun h3 => ?_)
  ·refine pr 2 rfl<|gg (R.leI rfl rfl) rfl<|pr 1 rfl<|W.split (R.pickF rfl rfl) rfl rfl rfl (fun h4 => ?_) (fun h4 => ?_)
   ·refine pr 9 rfl<|nst<|rA rfl rfl ⟨bI ?_, hG⟩
    first | (exfalso; omega) | (simp [Sp.beginByte]; omega)
   refine pr 2 rfl<|gg (R.eqI rfl rfl) rfl<|W.split (R.pickF rfl rfl) rfl rfl rfl (fun h5 => ?_) (fun h5 => ?_)
   ·refine pr 5 rfl<|nst<|rA rfl rfl ⟨bI ?_, hG⟩
    first | (exfalso; omega) | (simp [Sp.beginByte]; omega)
   refine pr 2 rfl<|gg (R.geI rfl rfl) rfl<|pr 2 rfl<|nst<|rA rfl rfl ⟨bI ?_, hG⟩
   first | (exfalso; omega) | (simp [Sp.beginByte]; omega)
  refine pr 7 rfl<|gg (R.eqI rfl rfl) rfl<|W.split (R.pickF rfl rfl) rfl rfl rfl (fun h6 => ?_) (fun h6 => ?_)
  ·refine pr 5 rfl<|nst<|rA rfl rfl ⟨bI ?_, hG⟩
   first | (exfalso; omega) | (simp [Sp.beginByte]; omega)
  refine pr 2 rfl<|gg (R.geI rfl rfl) rfl<|pr 2 rfl<|nst<|rA rfl rfl ⟨bI ?_, hG⟩
  first | (exfalso; omega) | (simp [Sp.beginByte]; omega)
 refine pr 6 rfl<|W.gsplit rfl (R.geI rfl rfl) rfl rfl rfl (fun h7 => ?_) (fun h7 => ?_)
 ·refine pr 2 rfl<|gg (R.leI rfl rfl) rfl<|pr 1 rfl<|W.split (R.pickF rfl rfl) rfl rfl rfl (fun h8 => ?_) (fun h8 => ?_)
  ·refine pr 9 rfl<|nst<|rA rfl rfl ⟨bI ?_, hG⟩
   first | (exfalso; omega) | (simp [Sp.beginByte]; omega)
  refine pr 2 rfl<|gg (R.eqI rfl rfl) rfl<|W.split (R.pickF rfl rfl) rfl rfl rfl (fun h9 => ?_) (fun h9 => ?_)
  ·refine pr 5 rfl<|nst<|rA rfl rfl ⟨bI ?_, hG⟩
   first | (exfalso; omega) | (simp [Sp.beginByte]; omega)
  refine pr 2 rfl<|gg (R.geI rfl rfl) rfl<|pr 2 rfl<|nst<|rA rfl rfl ⟨bI ?_, hG⟩
  first | (exfalso; omega) | (simp [Sp.beginByte]; omega)
 refine pr 7 rfl<|gg (R.eqI rfl rfl) rfl<|W.split (R.pickF rfl rfl) rfl rfl rfl (fun h10 => ?_) (fun h10 => ?_)
 ·refine pr 5 rfl<|nst<|rA rfl rfl ⟨bI ?_, hG⟩
  first | (exfalso; omega) | (simp [Sp.beginByte]; omega)
 refine pr 2 rfl<|gg (R.geI rfl rfl) rfl<|pr 2 rfl<|nst<|rA rfl rfl ⟨bI ?_, hG⟩
 first | (exfalso; omega) | (simp [Sp.beginByte]; omega)
theorem next_calls (g : Nat) (r : Rd) (w0 : World) (hr : RD g r w0) (hb : r.s.length ≤ 1000) (hp : r.pos ≤ r.s.length + 1) :
 CR PR 26 [pP g] w0 fun v w' => v = .int .u8 (Sp.next r : Int) ∧ Gr w0 w' none := by
 have hG : Gr w0 w0 none := Gr.refl _ _
 refine CR.of (n := 22) [(0, pP g)] Tryz.func26 rfl Tryz.ntmps26 rfl ⟨rfl, trivial⟩<|qr<|pr 1 rfl<|nsq<|rQ<|dR<|prq 2 rfl<|fQ fo38_1 rfl<|lQ sc3 hr rfl rfl<|prq 2 rfl<|fQ fo38_0 rfl<|lQ sc9 hr rfl rfl<|qw (fun w hw => R.lenS rfl u9) rfl<|qw (fun w hw => R.geI rfl rfl) rfl<|Wq.nil fun w hw => ?_
 have hr := hr.grN hw
 have hG := hG.trans (hw.no _)
 refine rS<|cD rfl (fun h1 => ?_) fun h1 => ?_
 ·refine qr<|pr 1 rfl<|nsth<|rA rfl rfl ⟨?_, hG⟩
  first | (have : ¬ r.pos < r.s.length := by omega); simp [Sp.next, this] | (have : r.pos < r.s.length := by omega); simp [Sp.next, this]
 refine ksq<|dR<|prq 2 rfl<|fQ fo38_0 rfl<|lQ sc9 hr rfl rfl<|prq 2 rfl<|fQ fo38_1 rfl<|lQ sc3 hr rfl rfl<|qw (fun w hw => R.idxS rfl rfl _ rfl om u9) rfl<|prq 1 rfl<|Wq.nil fun w hw => ?_
 have hr := hr.grN hw
 have hG := hG.trans (hw.no _)
 refine rS<|rT<|rA rfl rfl ⟨?_, hG⟩
 first | (have : ¬ r.pos < r.s.length := by omega); simp [Sp.next, this] | (have : r.pos < r.s.length := by omega); simp [Sp.next, this]
theorem here_calls (g : Nat) (r : Rd) (w0 : World) (hr : RD g r w0) (hb : r.s.length ≤ 1000) (hp : r.pos ≤ r.s.length + 1) (t : List UInt8) (ht : t.length ≤ 100) :
 CR PR 29 [pP g, str t] w0 fun v w' => v = .bool (Sp.here r t) ∧ Gr w0 w' none := by
 have hG : Gr w0 w0 none := Gr.refl _ _
 refine CR.of (n := 38) [(0, pP g), (1, str t)] Tryz.func29 rfl Tryz.ntmps29 rfl ⟨rfl, rfl, trivial⟩<|qr<|pr 1 rfl<|nsq<|dR<|prq 2 rfl<|fQ fo38_1 rfl<|lQ sc3 hr rfl rfl<|prq 1 rfl<|qw (fun w hw => R.lenS rfl u9) rfl<|qw (fun w hw => R.addN rfl rfl om) rfl<|prq 2 rfl<|fQ fo38_0 rfl<|lQ sc9 hr rfl rfl<|qw (fun w hw => R.lenS rfl u9) rfl<|Wq.split (fun w hw => R.leI rfl rfl) rfl rfl rfl (fun h1 => ?_) (fun h1 => ?_)
 ·refine prq 3 rfl<|gw (fun w hw => R.fieldAddr fo38_0 rfl) rfl<|gw (fun w hw => R.load sc9 rfl (hr.grN hw) rfl) rfl<|prq 2 rfl<|gw (fun w hw => R.fieldAddr fo38_1 rfl) rfl<|gw (fun w hw => R.load sc3 rfl (hr.grN hw) rfl) rfl<|prq 2 rfl<|gw (fun w hw => R.fieldAddr fo38_1 rfl) rfl<|gw (fun w hw => R.load sc3 rfl (hr.grN hw) rfl) rfl<|prq 1 rfl<|gw (fun w hw => R.lenS rfl u9) rfl<|gw (fun w hw => R.addN rfl rfl om) rfl<|gw (fun w hw => R.sliceS rfl rfl rfl rfl rfl om om u9) rfl<|prq 1 rfl<|gw (fun w hw => R.eqS rfl rfl) rfl<|prq 2 rfl<|Wq.nil fun w hw => ?_
  have hr := hr.grN hw
  have hG := hG.trans (hw.no _)
  refine rS<|rT<|rA rfl rfl ⟨?_, hG⟩
  first | (have h2 : r.pos + t.length ≤ r.s.length := by omega); simp [Sp.here, h2] | (have h2 : ¬ r.pos + t.length ≤ r.s.length := by omega); simp [Sp.here, h2]
 refine prq 21 rfl<|Wq.nil fun w hw => ?_
 have hr := hr.grN hw
 have hG := hG.trans (hw.no _)
 refine rS<|rT<|rA rfl rfl ⟨?_, hG⟩
 first | (have h2 : r.pos + t.length ≤ r.s.length := by omega); simp [Sp.here, h2] | (have h2 : ¬ r.pos + t.length ≤ r.s.length := by omega); simp [Sp.here, h2]
theorem nameByte_calls (c : Nat) (w0 : World) :
 CR PR 54 [.int .u8 (c : Int)] w0 fun v w' => v = .bool (Sp.nameByte c) ∧ Gr w0 w' none := by
 have hG : Gr w0 w0 none := Gr.refl _ _
 refine CR.of (n := 17) [(0, .int .u8 (c : Int))] Tryz.func54 rfl Tryz.ntmps54 rfl ⟨rfl, trivial⟩<|qr<|pr 1 rfl<|nsqr<|pr 1 rfl<|eN en40 rfl (beginByte_calls c _) fun v w hv => ?_
 obtain ⟨rfl, hv⟩ := hv
 have hG := hG.trans hv
 cases hb0 : Sp.beginByte c
 ·refine pr 2 rfl<|gg (R.eqI rfl rfl) rfl<|W.split (R.pickF rfl rfl) rfl rfl rfl (fun h2 => ?_) (fun h2 => ?_)
  ·refine pr 9 rfl<|nst<|rA rfl rfl ⟨bI ?_, hG⟩
   first | (exfalso; omega) | (simp [Sp.nameByte, *]; done) | (simp [Sp.nameByte, *]; omega)
  refine pr 2 rfl<|W.gsplit rfl (R.geI rfl rfl) rfl rfl rfl (fun h3 => ?_) (fun h3 => ?_)
  ·refine pr 2 rfl<|gg (R.leI rfl rfl) rfl<|pr 3 rfl<|nst<|rA rfl rfl ⟨bI ?_, hG⟩
   first | (exfalso; omega) | (simp [Sp.nameByte, *]; done) | (simp [Sp.nameByte, *]; omega)
  refine pr 6 rfl<|nst<|rA rfl rfl ⟨bI ?_, hG⟩
  first | (exfalso; omega) | (simp [Sp.nameByte, *]; done) | (simp [Sp.nameByte, *]; omega)
 refine pr 13 rfl<|nst<|rA rfl rfl ⟨bI ?_, hG⟩
 first | (exfalso; omega) | (simp [Sp.nameByte, *]; done) | (simp [Sp.nameByte, *]; omega)
theorem hexadecimal_calls (c : Nat) (w0 : World) :
 CR PR 70 [.int .u8 (c : Int)] w0 fun v w' => v = .int .i64 (match Sp.hexv c with | some d => (d : Int) | none => -1) ∧ Gr w0 w' none := by
 have hG : Gr w0 w0 none := Gr.refl _ _
 refine CR.of (n := 35) [(0, .int .u8 (c : Int))] Tryz.func70 rfl Tryz.ntmps70 rfl ⟨rfl, trivial⟩<|qr<|pr 1 rfl<|nsq<|rO<|qr<|pr 1 rfl<|W.split (R.geI rfl rfl) rfl rfl rfl (fun h1 => ?_) (fun h1 => ?_)
 ·refine pr 2 rfl<|gg (R.leI rfl rfl) rfl<|pr 2 rfl<|ns<|cD rfl (fun h2 => ?_) fun h2 => ?_
  ·refine qr<|pr 1 rfl<|qq (R.subB 48 rfl rfl om om) rfl<|qq (R.cvN rfl u3 kR om) rfl<|pr 1 rfl<|nst<|rC<|rH<|rA rfl rfl ⟨?_, hG⟩
   first | (exfalso; omega) | (rw [Sp.hexv, if_pos om]; done) | (rw [Sp.hexv, if_neg om, if_pos om]; done) | (rw [Sp.hexv, if_neg om, if_neg om, if_pos om]; done) | (rw [Sp.hexv, if_neg om, if_neg om, if_neg om]; done)
  refine qr<|pr 1 rfl<|W.split (R.geI rfl rfl) rfl rfl rfl (fun h3 => ?_) (fun h3 => ?_)
  ·refine pr 2 rfl<|gg (R.leI rfl rfl) rfl<|pr 2 rfl<|ns<|cD rfl (fun h4 => ?_) fun h4 => ?_
   ·refine qr<|pr 1 rfl<|qq (R.subB 97 rfl rfl om om) rfl<|qq (R.cvN rfl u3 kR om) rfl<|qq (R.addK 10 rfl rfl om) rfl<|pr 1 rfl<|nst<|rC<|rH<|rA rfl rfl ⟨?_, hG⟩
    first | (exfalso; omega) | (rw [Sp.hexv, if_pos om]; done) | (rw [Sp.hexv, if_neg om, if_pos om]; done) | (rw [Sp.hexv, if_neg om, if_neg om, if_pos om]; done) | (rw [Sp.hexv, if_neg om, if_neg om, if_neg om]; done)
   refine qr<|pr 1 rfl<|W.split (R.geI rfl rfl) rfl rfl rfl (fun h5 => ?_) (fun h5 => ?_)
   ·refine pr 2 rfl<|gg (R.leI rfl rfl) rfl<|pr 2 rfl<|ns<|cD rfl (fun h6 => ?_) fun h6 => ?_
    ·refine qr<|pr 1 rfl<|qq (R.subB 65 rfl rfl om om) rfl<|qq (R.cvN rfl u3 kR om) rfl<|qq (R.addK 10 rfl rfl om) rfl<|pr 1 rfl<|nst<|rC<|rH<|rA rfl rfl ⟨?_, hG⟩
     first | (exfalso; omega) | (rw [Sp.hexv, if_pos om]; done) | (rw [Sp.hexv, if_neg om, if_pos om]; done) | (rw [Sp.hexv, if_neg om, if_neg om, if_pos om]; done) | (rw [Sp.hexv, if_neg om, if_neg om, if_neg om]; done)
    refine rK<|bS<|qr<|pr 1 rfl<|nst<|rA rfl rfl ⟨?_, hG⟩
    first | (exfalso; omega) | (rw [Sp.hexv, if_pos om]; done) | (rw [Sp.hexv, if_neg om, if_pos om]; done) | (rw [Sp.hexv, if_neg om, if_neg om, if_pos om]; done) | (rw [Sp.hexv, if_neg om, if_neg om, if_neg om]; done)
   refine pr 5 rfl<|ns<|cF rfl<|rK<|bS<|qr<|pr 1 rfl<|nst<|rA rfl rfl ⟨?_, hG⟩
   first | (exfalso; omega) | (rw [Sp.hexv, if_pos om]; done) | (rw [Sp.hexv, if_neg om, if_pos om]; done) | (rw [Sp.hexv, if_neg om, if_neg om, if_pos om]; done) | (rw [Sp.hexv, if_neg om, if_neg om, if_neg om]; done)
  refine pr 5 rfl<|ns<|cF rfl<|qr<|pr 1 rfl<|W.split (R.geI rfl rfl) rfl rfl rfl (fun h7 => ?_) (fun h7 => ?_)
  ·refine pr 2 rfl<|gg (R.leI rfl rfl) rfl<|pr 2 rfl<|ns<|cD rfl (fun h8 => ?_) fun h8 => ?_
   ·refine qr<|pr 1 rfl<|qq (R.subB 65 rfl rfl om om) rfl<|qq (R.cvN rfl u3 kR om) rfl<|qq (R.addK 10 rfl rfl om) rfl<|pr 1 rfl<|nst<|rC<|rH<|rA rfl rfl ⟨?_, hG⟩
    first | (exfalso; omega) | (rw [Sp.hexv, if_pos om]; done) | (rw [Sp.hexv, if_neg om, if_pos om]; done) | (rw [Sp.hexv, if_neg om, if_neg om, if_pos om]; done) | (rw [Sp.hexv, if_neg om, if_neg om, if_neg om]; done)
   refine rK<|bS<|qr<|pr 1 rfl<|nst<|rA rfl rfl ⟨?_, hG⟩
   first | (exfalso; omega) | (rw [Sp.hexv, if_pos om]; done) | (rw [Sp.hexv, if_neg om, if_pos om]; done) | (rw [Sp.hexv, if_neg om, if_neg om, if_pos om]; done) | (rw [Sp.hexv, if_neg om, if_neg om, if_neg om]; done)
  refine pr 5 rfl<|ns<|cF rfl<|rK<|bS<|qr<|pr 1 rfl<|nst<|rA rfl rfl ⟨?_, hG⟩
  first | (exfalso; omega) | (rw [Sp.hexv, if_pos om]; done) | (rw [Sp.hexv, if_neg om, if_pos om]; done) | (rw [Sp.hexv, if_neg om, if_neg om, if_pos om]; done) | (rw [Sp.hexv, if_neg om, if_neg om, if_neg om]; done)
 refine pr 5 rfl<|ns<|cF rfl<|qr<|pr 1 rfl<|W.split (R.geI rfl rfl) rfl rfl rfl (fun h9 => ?_) (fun h9 => ?_)
 ·refine pr 2 rfl<|gg (R.leI rfl rfl) rfl<|pr 2 rfl<|ns<|cD rfl (fun h10 => ?_) fun h10 => ?_
  ·refine qr<|pr 1 rfl<|qq (R.subB 97 rfl rfl om om) rfl<|qq (R.cvN rfl u3 kR om) rfl<|qq (R.addK 10 rfl rfl om) rfl<|pr 1 rfl<|nst<|rC<|rH<|rA rfl rfl ⟨?_, hG⟩
   first | (exfalso; omega) | (rw [Sp.hexv, if_pos om]; done) | (rw [Sp.hexv, if_neg om, if_pos om]; done) | (rw [Sp.hexv, if_neg om, if_neg om, if_pos om]; done) | (rw [Sp.hexv, if_neg om, if_neg om, if_neg om]; done)
  refine qr<|pr 1 rfl<|W.split (R.geI rfl rfl) rfl rfl rfl (fun h11 => ?_) (fun h11 => ?_)
  ·refine pr 2 rfl<|gg (R.leI rfl rfl) rfl<|pr 2 rfl<|ns<|cD rfl (fun h12 => ?_) fun h12 => ?_
   ·refine qr<|pr 1 rfl<|qq (R.subB 65 rfl rfl om om) rfl<|qq (R.cvN rfl u3 kR om) rfl<|qq (R.addK 10 rfl rfl om) rfl<|pr 1 rfl<|nst<|rC<|rH<|rA rfl rfl ⟨?_, hG⟩
    first | (exfalso; omega) | (rw [Sp.hexv, if_pos om]; done) | (rw [Sp.hexv, if_neg om, if_pos om]; done) | (rw [Sp.hexv, if_neg om, if_neg om, if_pos om]; done) | (rw [Sp.hexv, if_neg om, if_neg om, if_neg om]; done)
   refine rK<|bS<|qr<|pr 1 rfl<|nst<|rA rfl rfl ⟨?_, hG⟩
   first | (exfalso; omega) | (rw [Sp.hexv, if_pos om]; done) | (rw [Sp.hexv, if_neg om, if_pos om]; done) | (rw [Sp.hexv, if_neg om, if_neg om, if_pos om]; done) | (rw [Sp.hexv, if_neg om, if_neg om, if_neg om]; done)
  refine pr 5 rfl<|ns<|cF rfl<|rK<|bS<|qr<|pr 1 rfl<|nst<|rA rfl rfl ⟨?_, hG⟩
  first | (exfalso; omega) | (rw [Sp.hexv, if_pos om]; done) | (rw [Sp.hexv, if_neg om, if_pos om]; done) | (rw [Sp.hexv, if_neg om, if_neg om, if_pos om]; done) | (rw [Sp.hexv, if_neg om, if_neg om, if_neg om]; done)
 refine pr 5 rfl<|ns<|cF rfl<|qr<|pr 1 rfl<|W.split (R.geI rfl rfl) rfl rfl rfl (fun h13 => ?_) (fun h13 => ?_)
 ·refine pr 2 rfl<|gg (R.leI rfl rfl) rfl<|pr 2 rfl<|ns<|cD rfl (fun h14 => ?_) fun h14 => ?_
  ·refine qr<|pr 1 rfl<|qq (R.subB 65 rfl rfl om om) rfl<|qq (R.cvN rfl u3 kR om) rfl<|qq (R.addK 10 rfl rfl om) rfl<|pr 1 rfl<|nst<|rC<|rH<|rA rfl rfl ⟨?_, hG⟩
   first | (exfalso; omega) | (rw [Sp.hexv, if_pos om]; done) | (rw [Sp.hexv, if_neg om, if_pos om]; done) | (rw [Sp.hexv, if_neg om, if_neg om, if_pos om]; done) | (rw [Sp.hexv, if_neg om, if_neg om, if_neg om]; done)
  refine rK<|bS<|qr<|pr 1 rfl<|nst<|rA rfl rfl ⟨?_, hG⟩
  first | (exfalso; omega) | (rw [Sp.hexv, if_pos om]; done) | (rw [Sp.hexv, if_neg om, if_pos om]; done) | (rw [Sp.hexv, if_neg om, if_neg om, if_pos om]; done) | (rw [Sp.hexv, if_neg om, if_neg om, if_neg om]; done)
 refine pr 5 rfl<|ns<|cF rfl<|rK<|bS<|qr<|pr 1 rfl<|nst<|rA rfl rfl ⟨?_, hG⟩
 first | (exfalso; omega) | (rw [Sp.hexv, if_pos om]; done) | (rw [Sp.hexv, if_neg om, if_pos om]; done) | (rw [Sp.hexv, if_neg om, if_neg om, if_pos om]; done) | (rw [Sp.hexv, if_neg om, if_neg om, if_neg om]; done)
theorem escapeFollows_calls (g : Nat) (r : Rd) (w0 : World) (hr : RD g r w0) (hb : r.s.length ≤ 1000) (hp : r.pos ≤ r.s.length + 1) (i : Nat) (hi : i ≤ 1002) :
 CR PR 41 [pP g, .int .i64 (i : Int)] w0 fun v w' => v = .bool (Sp.escapeFollows r i) ∧ Gr w0 w' none := by
 have hG : Gr w0 w0 none := Gr.refl _ _
 refine CR.of (n := 52) [(0, pP g), (1, .int .i64 (i : Int))] Tryz.func41 rfl Tryz.ntmps41 rfl ⟨rfl, rfl, trivial⟩<|qr<|pr 1 rfl<|nsqr<|pr 1 rfl<|aK rfl rfl<|pr 2 rfl<|fA fo38_0 rfl<|lD sc9 hr rfl rfl<|qq (R.lenS rfl u9) rfl<|W.split (R.ltI rfl rfl) rfl rfl rfl (fun h1 => ?_) (fun h1 => ?_)
 ·refine pr 3 rfl<|gg (R.fieldAddr fo38_0 rfl) rfl<|gg (R.load sc9 rfl hr rfl) rfl<|pr 1 rfl<|gg (R.idxS rfl rfl _ rfl om u9) rfl<|gg (R.eqI rfl rfl) rfl<|W.split (R.pickT rfl rfl) rfl rfl rfl (fun h2 => ?_) (fun h2 => ?_)
  ·refine pr 3 rfl<|gg (R.fieldAddr fo38_0 rfl) rfl<|gg (R.load sc9 rfl hr rfl) rfl<|pr 1 rfl<|gg (R.addK 1 rfl rfl om) rfl<|gg (R.idxS rfl rfl _ rfl om u9) rfl<|gg (R.neI rfl rfl) rfl<|W.split (R.pickT rfl rfl) rfl rfl rfl (fun h3 => ?_) (fun h3 => ?_)
   ·refine pr 3 rfl<|gg (R.fieldAddr fo38_0 rfl) rfl<|gg (R.load sc9 rfl hr rfl) rfl<|pr 1 rfl<|gg (R.addK 1 rfl rfl om) rfl<|gg (R.idxS rfl rfl _ rfl om u9) rfl<|gg (R.neI rfl rfl) rfl<|W.split (R.pickT rfl rfl) rfl rfl rfl (fun h4 => ?_) (fun h4 => ?_)
    ·refine pr 3 rfl<|gg (R.fieldAddr fo38_0 rfl) rfl<|gg (R.load sc9 rfl hr rfl) rfl<|pr 1 rfl<|gg (R.addK 1 rfl rfl om) rfl<|gg (R.idxS rfl rfl _ rfl om u9) rfl<|gg (R.neI rfl rfl) rfl<|pr 2 rfl<|nst<|rA rfl rfl ⟨bI ?_, hG⟩
     first | (exfalso; omega) | (simp [Sp.escapeFollows]; omega)
    refine pr 11 rfl<|nst<|rA rfl rfl ⟨bI ?_, hG⟩
    first | (exfalso; omega) | (simp [Sp.escapeFollows]; omega)
   refine pr 21 rfl<|nst<|rA rfl rfl ⟨bI ?_, hG⟩
   first | (exfalso; omega) | (simp [Sp.escapeFollows]; omega)
  refine pr 31 rfl<|nst<|rA rfl rfl ⟨bI ?_, hG⟩
  first | (exfalso; omega) | (simp [Sp.escapeFollows]; omega)
 refine pr 40 rfl<|nst<|rA rfl rfl ⟨bI ?_, hG⟩
 first | (exfalso; omega) | (simp [Sp.escapeFollows]; omega)
theorem comment_calls (g : Nat) (r : Rd) (w0 : World) (hr : RD g r w0) (hb : r.s.length ≤ 1000) (hp : r.pos ≤ r.s.length + 1) :
 CR PR 33 [pP g] w0 fun v w' => v = .tuple #[] ∧ RD g (Sp.comment r) w' ∧ Gr w0 w' (some g) := by
 have hG : Gr w0 w0 (some g) := Gr.refl _ _
 refine CR.of (n := 46) [(0, pP g)] Tryz.func33 rfl Tryz.ntmps33 rfl ⟨rfl, trivial⟩<|qqr<|pr 2 rfl<|fA fo38_1 rfl<|lD sc3 hr rfl rfl<|qq (R.addK 2 rfl rfl om) rfl<|pr 1 rfl<|ns<|rO<|sB [(0, pP g), (2, .int .i64 ((r.pos + 2 : Nat) : Int))] rfl<|C.loop (fun m l w' => ∃ i : Nat, l = [(0, pP g), (2, .int .i64 (i : Int))] ∧ RD g r w' ∧ Gr w0 w' (some g) ∧ Sp.commentEnd r.s m i = Sp.commentEnd r.s r.s.length (r.pos + 2) ∧ r.s.length ≤ i + m ∧ i ≤ 2000) (r.s.length) (⟨_, rfl, hr, hG, rfl, om, om⟩) ?_
 rintro m l w ⟨i, rfl, hr, hG, hE, hm, hi⟩
 have hr : Blk _ g 38 [str r.s, .int .i64 ((r.pos : Nat) : Int), .bool r.bad, .bool r.uns, .bool r.ps] := hr
 refine qqr<|pr 1 rfl<|aK rfl rfl<|pr 2 rfl<|fA fo38_0 rfl<|lD sc9 hr rfl rfl<|qq (R.lenS rfl u9) rfl<|qq (R.ltI rfl rfl) rfl<|ns<|cD rfl (fun h1 => ?_) fun h1 => ?_
 ·refine ksq<|rO<|qr<|pr 2 rfl<|fA fo38_0 rfl<|lD sc9 hr rfl rfl<|pr 1 rfl<|qq (R.idxS rfl rfl _ rfl om u9) rfl<|W.split (R.eqI rfl rfl) rfl rfl rfl (fun h2 => ?_) (fun h2 => ?_)
  ·refine pr 3 rfl<|gg (R.fieldAddr fo38_0 rfl) rfl<|gg (R.load sc9 rfl hr rfl) rfl<|pr 1 rfl<|gg (R.addK 1 rfl rfl om) rfl<|gg (R.idxS rfl rfl _ rfl om u9) rfl<|gg (R.eqI rfl rfl) rfl<|pr 1 rfl<|ns<|cD rfl (fun h3 => ?_) fun h3 => ?_
   ·refine qr<|pr 2 rfl<|qq (R.addK 2 rfl rfl om) rfl<|pr 1 rfl<|fA fo38_1 rfl<|sT sc3 hr rfl fun w hr hs => ?_
    have hr : Blk _ g 38 [str r.s, .int .i64 (((i + 2) : Nat) : Int), .bool r.bad, .bool r.uns, .bool r.ps] := hr
    have hG := hG.trans hs
    refine nst<|rC<|rH<|rH<|rC<|rH<|At.res0r rfl ⟨rfl, ?_, hG⟩
    obtain ⟨m, rfl⟩ := sU m
    rw [Sp.commentEnd, if_pos om, if_pos om] at hE
    rw [Sp.comment, ← hE]; exact hr
   refine rK<|bS<|rR<|pr 1 rfl<|aK rfl rfl<|pr 1 rfl<|rN ?_
   obtain ⟨m, rfl⟩ := sU m
   rw [Sp.commentEnd, if_pos om] at hE
   rw [if_neg om] at hE
   exact cT [(0, pP g), (2, .int .i64 ((i + 1 : Nat) : Int))] rfl ⟨m, om, _, rfl, hr, hG, hE, om, om⟩
  refine pr 10 rfl<|ns<|cF rfl<|rK<|bS<|rR<|pr 1 rfl<|aK rfl rfl<|pr 1 rfl<|rN ?_
  obtain ⟨m, rfl⟩ := sU m
  rw [Sp.commentEnd, if_pos om] at hE
  rw [if_neg om] at hE
  exact cT [(0, pP g), (2, .int .i64 ((i + 1 : Nat) : Int))] rfl ⟨m, om, _, rfl, hr, hG, hE, om, om⟩
 refine rE<|rX<|rX<|rY<|rS<|rR<|pr 3 rfl<|fA fo38_2 rfl<|sT sc4 hr rfl fun w hr hs => ?_
 have hr : Blk _ g 38 [str r.s, .int .i64 ((r.pos : Nat) : Int), .bool true, .bool r.uns, .bool r.ps] := hr
 have hG := hG.trans hs
 refine pr 1 rfl<|fA fo38_3 rfl<|sT sc4 hr rfl fun w hr hs => ?_
 have hr : Blk _ g 38 [str r.s, .int .i64 ((r.pos : Nat) : Int), .bool true, .bool true, .bool r.ps] := hr
 have hG := hG.trans hs
 refine rN<|At.res0 rfl ⟨rfl, ?_, hG⟩
 have hE2 : Sp.commentEnd r.s m i = none := by
  cases m with
  | zero => rfl
  | succ m => rw [Sp.commentEnd, if_neg om]
 rw [hE2] at hE; rw [Sp.comment, ← hE]; exact hr
theorem taken_calls (g : Nat) (r : Rd) (w0 : World) (hr : RD g r w0) (hb : r.s.length ≤ 1000) (hp : r.pos ≤ r.s.length + 1) (t : List UInt8) (ht : t.length ≤ 100) :
 CR PR 18 [pP g, str t] w0 fun v w' => v = .bool (Sp.taken r t).1 ∧ RD g (Sp.taken r t).2 w' ∧ Gr w0 w' (some g) := by
 have hG : Gr w0 w0 (some g) := Gr.refl _ _
 refine CR.of (n := 18) [(0, pP g), (1, str t)] Tryz.func18 rfl Tryz.ntmps18 rfl ⟨rfl, rfl, trivial⟩<|qr<|pr 1 rfl<|nsq<|qr<|pr 2 rfl<|eN en29 rfl (here_calls g ⟨r.s, r.pos, r.bad, r.uns, r.ps⟩ _ hr hb hp t ht) fun v w hv => ?_
 obtain ⟨rfl, hv⟩ := hv
 have hr := hr.grN hv
 have hG := hG.trans (hv.no _)
 cases hb0 : Sp.here ⟨r.s, r.pos, r.bad, r.uns, r.ps⟩ t
 ·refine pr 1 rfl<|ns<|cV rfl<|qr<|pr 1 rfl<|nsth<|rA rfl rfl ?_
  have hb1 := hb0
  first | (rw [Sp.taken, if_pos (show Sp.here r t = true from hb1)]; exact ⟨rfl, hr, hG⟩) | (rw [Sp.taken, if_neg (show ¬ Sp.here r t = true from by rw [hb1]; decide)]; exact ⟨rfl, hr, hG⟩)
 refine pr 1 rfl<|ns<|cF rfl<|ksqr<|pr 2 rfl<|fA fo38_1 rfl<|lD sc3 hr rfl rfl<|pr 1 rfl<|qq (R.lenS rfl u9) rfl<|qq (R.addN rfl rfl om) rfl<|pr 1 rfl<|fA fo38_1 rfl<|sT sc3 hr rfl fun w hr hs => ?_
 have hr : Blk _ g 38 [str r.s, .int .i64 (((r.pos + t.length) : Nat) : Int), .bool r.bad, .bool r.uns, .bool r.ps] := hr
 have hG := hG.trans hs
 refine nsqr<|pr 1 rfl<|nst<|rA rfl rfl ?_
 have hb1 := hb0
 first | (rw [Sp.taken, if_pos (show Sp.here r t = true from hb1)]; exact ⟨rfl, hr, hG⟩) | (rw [Sp.taken, if_neg (show ¬ Sp.here r t = true from by rw [hb1]; decide)]; exact ⟨rfl, hr, hG⟩)
theorem spaces_calls (g : Nat) (r : Rd) (w0 : World) (hr : RD g r w0) (hb : r.s.length ≤ 1000) (hp : r.pos ≤ r.s.length + 1) :
 CR PR 24 [pP g] w0 fun v w' => v = .bool (Sp.spaces r).1 ∧ RD g (Sp.spaces r).2 w' ∧ Gr w0 w' (some g) := by
 have hG : Gr w0 w0 (some g) := Gr.refl _ _
 refine CR.of (n := 53) [(0, pP g)] Tryz.func24 rfl Tryz.ntmps24 rfl ⟨rfl, trivial⟩<|qr<|pr 1 rfl<|nsqr<|pr 2 rfl<|fA fo38_1 rfl<|lD sc3 hr rfl rfl<|pr 1 rfl<|nsq<|rO<|sB [(0, pP g), (3, .int .i64 (r.pos : Int))] rfl<|C.loop (fun m l w' => ∃ (p : Nat) (b u : Bool), l = [(0, pP g), (3, .int .i64 (r.pos : Int))] ∧ RD g ⟨r.s, p, b, u, r.ps⟩ w' ∧ Gr w0 w' (some g) ∧ Sp.spacesGo m ⟨r.s, p, b, u, r.ps⟩ = Sp.spacesGo (r.s.length + 1) r ∧ (b = true ∨ r.s.length < p + m) ∧ p ≤ r.s.length + 1 ∧ r.pos ≤ p) (r.s.length + 1) (⟨_, _, _, rfl, hr, hG, rfl, Or.inr om, om, om⟩) ?_
 rintro m l w ⟨p, b, u, rfl, hr, hG, hE, hm, hp1, hp2⟩
 have hr : Blk _ g 38 [str r.s, .int .i64 ((p : Nat) : Int), .bool b, .bool u, .bool r.ps] := hr
 refine rQ<|rQ<|dR<|prq 2 rfl<|fQ fo38_2 rfl<|Wq.splitB (fun w hw => R.load sc4 rfl (hr.grN hw) rfl) rfl rfl rfl (fun h1 => ?_) (fun h1 => ?_)
 ·refine prq 13 rfl<|Wq.nil fun w hw => ?_
  have hr := hr.grN hw
  have hG := hG.trans (hw.no _)
  refine rS<|cF rfl<|rE<|rX<|rX<|rY<|sqr<|pr 2 rfl<|fA fo38_1 rfl<|lD sc3 hr rfl rfl<|pr 1 rfl<|qq (R.gtI rfl rfl) rfl<|pr 1 rfl<|nst<|rA rfl rfl ?_
  have hE2 : Sp.spacesGo m ⟨r.s, p, b, u, r.ps⟩ = ⟨r.s, p, b, u, r.ps⟩ := by
   cases m with
   | zero => rfl
   | succ m => rw [Sp.spacesGo, if_neg (by simp only; intro hq; first | (have := hq.2; omega) | (exact absurd (hq.1.symm.trans ‹b = true›) dC))]
  rw [hE2] at hE; simp only [Sp.spaces, ← hE]
  exact ⟨by first | rfl | simp, hr, hG⟩
 refine prq 4 rfl<|gw (fun w hw => R.fieldAddr fo38_1 rfl) rfl<|gw (fun w hw => R.load sc3 rfl (hr.grN hw) rfl) rfl<|prq 2 rfl<|gw (fun w hw => R.fieldAddr fo38_0 rfl) rfl<|gw (fun w hw => R.load sc9 rfl (hr.grN hw) rfl) rfl<|gw (fun w hw => R.lenS rfl u9) rfl<|gw (fun w hw => R.ltI rfl rfl) rfl<|prq 1 rfl<|Wq.nil fun w hw => ?_
 have hr := hr.grN hw
 have hG := hG.trans (hw.no _)
 refine rS<|cD rfl (fun h2 => ?_) fun h2 => ?_
 ·refine ks<|rO<|rO<|qr<|pr 1 rfl<|eN en26 rfl (next_calls g ⟨r.s, p, b, u, r.ps⟩ _ hr hb sO) fun v w hv => ?_
  obtain ⟨rfl, hv⟩ := hv
  have hr := hr.grN hv
  have hG := hG.trans (hv.no _)
  refine eN en32 rfl (isSpace_calls _ _) fun v w hv => ?_
  obtain ⟨rfl, hv⟩ := hv
  have hr := hr.grN hv
  have hG := hG.trans (hv.no _)
  cases hb2 : Sp.isSpace (Sp.next ⟨r.s, p, b, u, r.ps⟩)
  ·refine pr 1 rfl<|ns<|cF rfl<|qr<|pr 1 rfl<|eN en29 rfl (here_calls g ⟨r.s, p, b, u, r.ps⟩ _ hr hb sO _ dC) fun v w hv => ?_
   obtain ⟨rfl, hv⟩ := hv
   have hr := hr.grN hv
   have hG := hG.trans (hv.no _)
   cases hb3 : Sp.here ⟨r.s, p, b, u, r.ps⟩ [47, 42]
   ·refine pr 1 rfl<|ns<|cF rfl<|qr<|pr 2 rfl<|fA fo38_1 rfl<|lD sc3 hr rfl rfl<|pr 1 rfl<|qq (R.gtI rfl rfl) rfl<|pr 1 rfl<|nst<|rC<|rC<|rH<|rC<|rH<|rA rfl rfl ?_
    have hE2 : Sp.spacesGo m ⟨r.s, p, b, u, r.ps⟩ = ⟨r.s, p, b, u, r.ps⟩ := by
     cases m with
     | zero => rfl
     | succ m => rw [Sp.spacesGo, if_pos ⟨by first | rfl | assumption, by simp only; omega⟩, if_neg (by rw [‹Sp.isSpace _ = false›]; decide), if_neg (by rw [‹Sp.here _ _ = false›]; decide)]
    rw [hE2] at hE; simp only [Sp.spaces, ← hE]
    exact ⟨by first | rfl | simp, hr, hG⟩
   refine pr 1 rfl<|ns<|cV rfl<|rR<|pr 1 rfl<|eN en33 rfl (comment_calls g ⟨r.s, p, b, u, r.ps⟩ _ hr hb sO) fun v w hv => ?_
   obtain ⟨rfl, hr, hv⟩ := hv
   have hG := hG.trans hv
   refine nB<|rB ?_
   have hm : r.s.length < p + m := by
    rcases hm with hm | hm
    ·exact absurd (hm.symm.trans ‹b = false›) dC
    exact hm
   obtain ⟨m, rfl⟩ := sU m
   rw [Sp.spacesGo, if_pos ⟨by first | rfl | assumption, by simp only; omega⟩] at hE
   rw [if_neg (by rw [‹Sp.isSpace _ = false›]; decide), if_pos ‹Sp.here _ _ = true›] at hE
   obtain ⟨p2, b2, u2, hc, hc1, hc2, hc3⟩ := Sp.comment_is r.s p b u r.ps hp1
   rw [hc] at hE hr
   exact cT [(0, pP g), (3, .int .i64 (r.pos : Int))] rfl ⟨m, om, p2, b2, u2, rfl, hr, hG, hE, by rcases hc1 with h | h; exact Or.inl h; exact Or.inr om, om, om⟩
  refine pr 1 rfl<|ns<|cV rfl<|rR<|pr 2 rfl<|fA fo38_1 rfl<|lD sc3 hr rfl rfl<|aK rfl rfl<|pr 1 rfl<|fA fo38_1 rfl<|sT sc3 hr rfl fun w hr hs => ?_
  have hr : Blk _ g 38 [str r.s, .int .i64 (((p + 1) : Nat) : Int), .bool b, .bool u, .bool r.ps] := hr
  have hG := hG.trans hs
  refine nB<|rB ?_
  have hm : r.s.length < p + m := by
   rcases hm with hm | hm
   ·exact absurd (hm.symm.trans ‹b = false›) dC
   exact hm
  obtain ⟨m, rfl⟩ := sU m
  rw [Sp.spacesGo, if_pos ⟨by first | rfl | assumption, by simp only; omega⟩] at hE
  rw [if_pos ‹Sp.isSpace _ = true›] at hE
  exact cT [(0, pP g), (3, .int .i64 (r.pos : Int))] rfl ⟨m, om, p + 1, b, u, rfl, hr, hG, hE, Or.inr om, om, om⟩
 refine rE<|rX<|rX<|rY<|sqr<|pr 2 rfl<|fA fo38_1 rfl<|lD sc3 hr rfl rfl<|pr 1 rfl<|qq (R.gtI rfl rfl) rfl<|pr 1 rfl<|nst<|rA rfl rfl ?_
 have hE2 : Sp.spacesGo m ⟨r.s, p, b, u, r.ps⟩ = ⟨r.s, p, b, u, r.ps⟩ := by
  cases m with
  | zero => rfl
  | succ m => rw [Sp.spacesGo, if_neg (by simp only; intro hq; first | (have := hq.2; omega) | (exact absurd (hq.1.symm.trans ‹b = true›) dC))]
 rw [hE2] at hE; simp only [Sp.spaces, ← hE]
 exact ⟨by first | rfl | simp, hr, hG⟩
theorem nameFollows_calls (g : Nat) (r : Rd) (w0 : World) (hr : RD g r w0) (hb : r.s.length ≤ 1000) (hp : r.pos ≤ r.s.length + 1) :
 CR PR 34 [pP g] w0 fun v w' => v = .bool (Sp.nameFollows r).1 ∧ RD g (Sp.nameFollows r).2 w' ∧ Gr w0 w' (some g) := by
 have hG : Gr w0 w0 (some g) := Gr.refl _ _
 refine CR.of (n := 66) [(0, pP g)] Tryz.func34 rfl Tryz.ntmps34 rfl ⟨rfl, trivial⟩<|qr<|pr 1 rfl<|nsqr<|pr 2 rfl<|fA fo38_1 rfl<|lD sc3 hr rfl rfl<|pr 1 rfl<|ns<|C.cut (fun l w' => ∃ (p : Nat) (u : Bool), l = [(0, pP g), (3, .int .i64 (p : Int))] ∧ RD g ⟨r.s, r.pos, r.bad, u, r.ps⟩ w' ∧ Gr w0 w' (some g) ∧ p ≤ r.pos + 1 ∧ Sp.nameFollows r = (decide (p < r.s.length) && Sp.beginByte (byteAt r.s p) || Sp.escapeFollows r p, ⟨r.s, r.pos, r.bad, u, r.ps⟩)) ?_ ?_
 ·refine qr<|pr 3 rfl<|fA fo38_0 rfl<|lD sc9 hr rfl rfl<|qq (R.lenS rfl u9) rfl<|W.split (R.ltI rfl rfl) rfl rfl rfl (fun h1 => ?_) (fun h1 => ?_)
  ·refine pr 3 rfl<|gg (R.fieldAddr fo38_0 rfl) rfl<|gg (R.load sc9 rfl hr rfl) rfl<|pr 1 rfl<|gg (R.idxS rfl rfl _ rfl om u9) rfl<|gg (R.eqI rfl rfl) rfl<|pr 1 rfl<|ns<|cD rfl (fun h2 => ?_) fun h2 => ?_
   ·refine qr<|pr 1 rfl<|aK rfl rfl<|pr 1 rfl<|nsqr<|pr 3 rfl<|fA fo38_0 rfl<|lD sc9 hr rfl rfl<|qq (R.lenS rfl u9) rfl<|W.split (R.ltI rfl rfl) rfl rfl rfl (fun h3 => ?_) (fun h3 => ?_)
    ·refine pr 3 rfl<|gg (R.fieldAddr fo38_0 rfl) rfl<|gg (R.load sc9 rfl hr rfl) rfl<|pr 1 rfl<|gg (R.idxS rfl rfl _ rfl om u9) rfl<|gg (R.eqI rfl rfl) rfl<|pr 1 rfl<|ns<|cD rfl (fun h4 => ?_) fun h4 => ?_
     ·refine rR<|pr 2 rfl<|fA fo38_3 rfl<|sT sc4 hr rfl fun w hr hs => ?_
      have hr : Blk _ g 38 [str r.s, .int .i64 ((r.pos : Nat) : Int), .bool r.bad, .bool true, .bool r.ps] := hr
      have hG := hG.trans hs
      refine rN ?_
      have hN : Sp.nameFollows r = (decide ((r.pos + 1) < r.s.length) && Sp.beginByte (byteAt r.s (r.pos + 1)) || Sp.escapeFollows r (r.pos + 1), ⟨r.s, r.pos, r.bad, true, r.ps⟩) := by
       rw [Sp.nameFollows, if_pos om]
       dsimp only
       rw [if_pos om]
       rfl
      exact cT [(0, pP g), (3, .int .i64 (((r.pos + 1) : Nat) : Int))] rfl ⟨(r.pos + 1), true, rfl, hr, hG, om, hN⟩
     refine rK ?_
     have hN : Sp.nameFollows r = (decide ((r.pos + 1) < r.s.length) && Sp.beginByte (byteAt r.s (r.pos + 1)) || Sp.escapeFollows r (r.pos + 1), ⟨r.s, r.pos, r.bad, r.uns, r.ps⟩) := by
      rw [Sp.nameFollows, if_pos om]
      dsimp only
      rw [if_neg om]
     exact cT [(0, pP g), (3, .int .i64 (((r.pos + 1) : Nat) : Int))] rfl ⟨(r.pos + 1), r.uns, rfl, hr, hG, om, hN⟩
    refine pr 9 rfl<|ns<|cF rfl<|rK ?_
    have hN : Sp.nameFollows r = (decide ((r.pos + 1) < r.s.length) && Sp.beginByte (byteAt r.s (r.pos + 1)) || Sp.escapeFollows r (r.pos + 1), ⟨r.s, r.pos, r.bad, r.uns, r.ps⟩) := by
     rw [Sp.nameFollows, if_pos om]
     dsimp only
     rw [if_neg om]
    exact cT [(0, pP g), (3, .int .i64 (((r.pos + 1) : Nat) : Int))] rfl ⟨(r.pos + 1), r.uns, rfl, hr, hG, om, hN⟩
   refine rK ?_
   have hN : Sp.nameFollows r = (decide (r.pos < r.s.length) && Sp.beginByte (byteAt r.s r.pos) || Sp.escapeFollows r r.pos, ⟨r.s, r.pos, r.bad, r.uns, r.ps⟩) := by
    rw [Sp.nameFollows, if_neg om]
   exact cT [(0, pP g), (3, .int .i64 ((r.pos : Nat) : Int))] rfl ⟨r.pos, r.uns, rfl, hr, hG, om, hN⟩
  refine pr 9 rfl<|ns<|cF rfl<|rK ?_
  have hN : Sp.nameFollows r = (decide (r.pos < r.s.length) && Sp.beginByte (byteAt r.s r.pos) || Sp.escapeFollows r r.pos, ⟨r.s, r.pos, r.bad, r.uns, r.ps⟩) := by
   rw [Sp.nameFollows, if_neg om]
  exact cT [(0, pP g), (3, .int .i64 ((r.pos : Nat) : Int))] rfl ⟨r.pos, r.uns, rfl, hr, hG, om, hN⟩
 rintro l w ⟨p, u, rfl, hr, hG, hp1, hN⟩
 have hr : Blk _ g 38 [str r.s, .int .i64 ((r.pos : Nat) : Int), .bool r.bad, .bool u, .bool r.ps] := hr
 refine qr<|pr 3 rfl<|fA fo38_0 rfl<|lD sc9 hr rfl rfl<|qq (R.lenS rfl u9) rfl<|W.split (R.ltI rfl rfl) rfl rfl rfl (fun h5 => ?_) (fun h5 => ?_)
 ·refine pr 3 rfl<|gg (R.fieldAddr fo38_0 rfl) rfl<|gg (R.load sc9 rfl hr rfl) rfl<|pr 1 rfl<|gg (R.idxS rfl rfl _ rfl om u9) rfl<|gN rfl en40 rfl (beginByte_calls _ _) fun v w hv => ?_
  obtain ⟨rfl, hv⟩ := hv
  have hr := hr.grN hv
  have hG := hG.trans (hv.no _)
  cases hb5 : Sp.beginByte (byteAt r.s p)
  ·refine pr 4 rfl<|gN rfl en41 rfl (escapeFollows_calls g ⟨r.s, r.pos, r.bad, u, r.ps⟩ _ hr hb hp p om) fun v w hv => ?_
   obtain ⟨rfl, hv⟩ := hv
   have hr := hr.grN hv
   have hG := hG.trans (hv.no _)
   cases hb6 : Sp.escapeFollows ⟨r.s, r.pos, r.bad, u, r.ps⟩ p
   ·refine pr 2 rfl<|nst<|rA rfl rfl ?_
    rw [hN]
    refine ⟨congrArg Value.bool ?_, hr, hG⟩
    have hlt : p < r.s.length := by omega
    have he : Sp.escapeFollows r p = false := ‹Sp.escapeFollows _ p = _›
    simp [*]
   refine pr 2 rfl<|nst<|rA rfl rfl ?_
   rw [hN]
   refine ⟨congrArg Value.bool ?_, hr, hG⟩
   have hlt : p < r.s.length := by omega
   have he : Sp.escapeFollows r p = true := ‹Sp.escapeFollows _ p = _›
   simp [*]
  refine pr 7 rfl<|nst<|rA rfl rfl ?_
  rw [hN]
  refine ⟨congrArg Value.bool ?_, hr, hG⟩
  have hlt : p < r.s.length := by omega
  simp [*]
 refine pr 12 rfl<|gN rfl en41 rfl (escapeFollows_calls g ⟨r.s, r.pos, r.bad, u, r.ps⟩ _ hr hb hp p om) fun v w hv => ?_
 obtain ⟨rfl, hv⟩ := hv
 have hr := hr.grN hv
 have hG := hG.trans (hv.no _)
 cases hb7 : Sp.escapeFollows ⟨r.s, r.pos, r.bad, u, r.ps⟩ p
 ·refine pr 2 rfl<|nst<|rA rfl rfl ?_
  rw [hN]
  refine ⟨congrArg Value.bool ?_, hr, hG⟩
  have hlt : ¬ p < r.s.length := by omega
  have he : Sp.escapeFollows r p = false := ‹Sp.escapeFollows _ p = _›
  simp [*]
 refine pr 2 rfl<|nst<|rA rfl rfl ?_
 rw [hN]
 refine ⟨congrArg Value.bool ?_, hr, hG⟩
 have hlt : ¬ p < r.s.length := by omega
 have he : Sp.escapeFollows r p = true := ‹Sp.escapeFollows _ p = _›
 simp [*]
theorem digits_calls (g : Nat) (r : Rd) (w0 : World) (hr : RD g r w0) (hb : r.s.length ≤ 1000) (hp : r.pos ≤ r.s.length + 1) :
 CR PR 81 [pP g] w0 fun v w' => v = .tuple #[.int .i64 ((Sp.digits r).1 : Int), .bool (Sp.digits r).2.1] ∧ RD g (Sp.digits r).2.2 w' ∧ Gr w0 w' (some g) := by
 have hG : Gr w0 w0 (some g) := Gr.refl _ _
 refine CR.of (n := 40) [(0, pP g)] Tryz.func81 rfl Tryz.ntmps81 rfl ⟨rfl, trivial⟩<|qr<|pr 2 rfl<|nsq<|rO<|sB [(0, pP g), (2, .int .i64 ((0 : Nat) : Int)), (3, .bool false)] rfl<|C.loop (fun m l w' => ∃ (p n : Nat) (is : Bool), l = [(0, pP g), (2, .int .i64 (n : Int)), (3, .bool is)] ∧ RD g ⟨r.s, p, r.bad, r.uns, r.ps⟩ w' ∧ Gr w0 w' (some g) ∧ Sp.digitsGo m n is ⟨r.s, p, r.bad, r.uns, r.ps⟩ = Sp.digitsGo (r.s.length + 1) 0 false r ∧ r.s.length < p + m ∧ p ≤ r.s.length + 1 ∧ r.pos ≤ p ∧ n ≤ 100000) (r.s.length + 1) (⟨r.pos, 0, false, rfl, hr, hG, rfl, om, om, om, om⟩) ?_
 rintro m l w ⟨p, n, is, rfl, hr, hG, hE, hm, hp1, hp2, hn⟩
 have hr : Blk _ g 38 [str r.s, .int .i64 ((p : Nat) : Int), .bool r.bad, .bool r.uns, .bool r.ps] := hr
 refine qqr<|pr 1 rfl<|eN en26 rfl (next_calls g ⟨r.s, p, r.bad, r.uns, r.ps⟩ _ hr hb sO) fun v w hv => ?_
 obtain ⟨rfl, hv⟩ := hv
 have hr := hr.grN hv
 have hG := hG.trans (hv.no _)
 have hnx := Sp.next_lt ⟨r.s, p, r.bad, r.uns, r.ps⟩
 refine W.split (R.geI rfl rfl) rfl rfl rfl (fun h1 => ?_) (fun h1 => ?_)
 ·refine pr 2 rfl<|gN rfl en26 rfl (next_calls g ⟨r.s, p, r.bad, r.uns, r.ps⟩ _ hr hb sO) fun v w hv => ?_
  obtain ⟨rfl, hv⟩ := hv
  have hr := hr.grN hv
  have hG := hG.trans (hv.no _)
  have hnx := Sp.next_lt ⟨r.s, p, r.bad, r.uns, r.ps⟩
  refine gg (R.leI rfl rfl) rfl<|pr 1 rfl<|ns<|cD rfl (fun h2 => ?_) fun h2 => ?_
  ·refine ks<|rO<|qr<|pr 1 rfl<|qq (R.mulK 10 rfl rfl om) rfl<|pr 1 rfl<|eN en26 rfl (next_calls g ⟨r.s, p, r.bad, r.uns, r.ps⟩ _ hr hb sO) fun v w hv => ?_
   obtain ⟨rfl, hv⟩ := hv
   have hr := hr.grN hv
   have hG := hG.trans (hv.no _)
   have hnx := Sp.next_lt ⟨r.s, p, r.bad, r.uns, r.ps⟩
   refine qq (R.subB 48 rfl rfl om om) rfl<|qq (R.cvN rfl u3 kR om) rfl<|qq (R.addN rfl rfl om) rfl<|qq (R.min2 100000 rfl rfl) rfl<|pr 2 rfl<|nsr<|pr 2 rfl<|fA fo38_1 rfl<|lD sc3 hr rfl rfl<|aK rfl rfl<|pr 1 rfl<|fA fo38_1 rfl<|sT sc3 hr rfl fun w hr hs => ?_
   have hr : Blk _ g 38 [str r.s, .int .i64 (((p + 1) : Nat) : Int), .bool r.bad, .bool r.uns, .bool r.ps] := hr
   have hG := hG.trans hs
   refine nB ?_
   have hpl : p < r.s.length := by
    rcases Nat.lt_or_ge p r.s.length with h | h
    ·exact h
    exfalso; have h48 : (48 : Int) ≤ ((Sp.next ⟨r.s, p, r.bad, r.uns, r.ps⟩ : Nat) : Int) := by assumption
    rw [Sp.next, if_neg sO] at h48; omega
   obtain ⟨m, rfl⟩ := sU m
   rw [Sp.digitsGo, if_pos (by constructor <;> omega)] at hE
   exact cT [(0, pP g), (2, .int .i64 ((min (10 * n + (Sp.next ⟨r.s, p, r.bad, r.uns, r.ps⟩ - 48)) 100000 : Nat) : Int)), (3, .bool true)] rfl ⟨m, om, p + 1, _, true, rfl, hr, hG, hE, om, om, om, om⟩
  refine rE<|rX<|rX<|rY<|sqr<|pr 3 rfl<|fA fo38_3 rfl<|W.splitB (R.load sc4 rfl hr rfl) rfl rfl rfl (fun h3 => ?_) (fun h3 => ?_)
  ·refine pr 5 rfl<|fA fo38_3 rfl<|sT sc4 hr rfl fun w hr hs => ?_
   have hr : Blk _ g 38 [str r.s, .int .i64 ((p : Nat) : Int), .bool r.bad, .bool true, .bool r.ps] := hr
   have hG := hG.trans hs
   refine nsqr<|pr 4 rfl<|nst<|At.res2 rfl rfl rfl ?_
   have hE2 : Sp.digitsGo m n is ⟨r.s, p, r.bad, r.uns, r.ps⟩ = (n, is, ⟨r.s, p, r.bad, r.uns, r.ps⟩) := by
    cases m with
    | zero => rfl
    | succ m => rw [Sp.digitsGo, if_neg om]
   rw [hE2] at hE; rw [Sp.digits, ← hE]
   refine ⟨rfl, hr.cast ?_, hG⟩
   simp [Rd.cells, Rd.orUns, *]
  refine pr 2 rfl<|gg (R.eqI rfl rfl) rfl<|pr 2 rfl<|fA fo38_3 rfl<|sT sc4 hr rfl fun w hr hs => ?_
  have hr : Blk _ g 38 [str r.s, .int .i64 ((p : Nat) : Int), .bool r.bad, .bool _, .bool r.ps] := hr
  have hG := hG.trans hs
  refine nsqr<|pr 4 rfl<|nst<|At.res2 rfl rfl rfl ?_
  have hE2 : Sp.digitsGo m n is ⟨r.s, p, r.bad, r.uns, r.ps⟩ = (n, is, ⟨r.s, p, r.bad, r.uns, r.ps⟩) := by
   cases m with
   | zero => rfl
   | succ m => rw [Sp.digitsGo, if_neg om]
  rw [hE2] at hE; rw [Sp.digits, ← hE]
  refine ⟨rfl, hr.cast ?_, hG⟩
  have e : decide ((n : Int) = 100000) = (n == 100000) := by rw [Bool.eq_iff_iff]; simp; omega
  simp only [Rd.cells, Rd.orUns, ‹r.uns = false›, Bool.false_or]
  rw [← e]
 refine pr 5 rfl<|ns<|cF rfl<|rE<|rX<|rX<|rY<|sqr<|pr 3 rfl<|fA fo38_3 rfl<|W.splitB (R.load sc4 rfl hr rfl) rfl rfl rfl (fun h4 => ?_) (fun h4 => ?_)
 ·refine pr 5 rfl<|fA fo38_3 rfl<|sT sc4 hr rfl fun w hr hs => ?_
  have hr : Blk _ g 38 [str r.s, .int .i64 ((p : Nat) : Int), .bool r.bad, .bool true, .bool r.ps] := hr
  have hG := hG.trans hs
  refine nsqr<|pr 4 rfl<|nst<|At.res2 rfl rfl rfl ?_
  have hE2 : Sp.digitsGo m n is ⟨r.s, p, r.bad, r.uns, r.ps⟩ = (n, is, ⟨r.s, p, r.bad, r.uns, r.ps⟩) := by
   cases m with
   | zero => rfl
   | succ m => rw [Sp.digitsGo, if_neg om]
  rw [hE2] at hE; rw [Sp.digits, ← hE]
  refine ⟨rfl, hr.cast ?_, hG⟩
  simp [Rd.cells, Rd.orUns, *]
 refine pr 2 rfl<|gg (R.eqI rfl rfl) rfl<|pr 2 rfl<|fA fo38_3 rfl<|sT sc4 hr rfl fun w hr hs => ?_
 have hr : Blk _ g 38 [str r.s, .int .i64 ((p : Nat) : Int), .bool r.bad, .bool _, .bool r.ps] := hr
 have hG := hG.trans hs
 refine nsqr<|pr 4 rfl<|nst<|At.res2 rfl rfl rfl ?_
 have hE2 : Sp.digitsGo m n is ⟨r.s, p, r.bad, r.uns, r.ps⟩ = (n, is, ⟨r.s, p, r.bad, r.uns, r.ps⟩) := by
  cases m with
  | zero => rfl
  | succ m => rw [Sp.digitsGo, if_neg om]
 rw [hE2] at hE; rw [Sp.digits, ← hE]
 refine ⟨rfl, hr.cast ?_, hG⟩
 have e : decide ((n : Int) = 100000) = (n == 100000) := by rw [Bool.eq_iff_iff]; simp; omega
 simp only [Rd.cells, Rd.orUns, ‹r.uns = false›, Bool.false_or]
 rw [← e]
end Go.Proofs.YtogfnbkccfkpoaaGreatDoor
