/- A part (1) of the proof of the row of laws.FnFromText: lemmas on Eng, Eng2, Ops, Mem, Mem2, Mem3, Facts, SpM. No condition but what each statement says. -/
import Derived.Test.YtogfnbkccfkpoaaGreatDoorProg
import Derived.WalkKit
import Derived.Deep.Quiet
import Derived.KernelRfl
import Derived.Lib.Strings
import Derived.Lib.MinMax
import Derived.Laws.IdiomStrings
import Derived.Laws.Tables
import Derived.Laws.AppendOwnNone
set_option linter.unusedSectionVars false
namespace Go.Proofs.YtogfnbkccfkpoaaGreatDoor
open Go Go.RowKit
namespace Eng
section
class Df where
 ds : List Deferred
instance (priority := low) noDf : Df := ⟨[]⟩
variable [Df]
abbrev Fr := List (Nat × Value)
def look : Fr → Nat → Option Value
 | [], _ => none
 | (k, v) :: r, t => bif Nat.beq k t then some v else look r t
def On (n : Nat) (l : Fr) (a : Act) : Prop := a.tmps.size = n ∧ a.defers = Df.ds ∧ ∀ t v, look l t = some v → a.tmps[t]? = some v
def ev (l : Fr) : Operand → Option Value
 | .tmp t => look l t
 | .const v => some v
 | .global g => some (.pointer (some ⟨g, 0, none⟩))
 | .func f => some (.func (.func f) #[] #[])
def evL (l : Fr) : List Operand → Option (List Value)
 | [] => some []
 | x :: r => match ev l x with
  | none => none
  | some v => match evL l r with
   | none => none
   | some vs => some (v :: vs)
theorem On.ev {n : Nat} {l : Fr} {a : Act} (h : On n l a) {x : Operand} {v : Value} (hx : ev l x = some v) : a.eval x = v := by
 cases x with
 | tmp t => have := h.2.2 t v hx; simp only [Act.eval, Array.getD_eq_getD_getElem?, this]; rfl
 | const c => simpa [Eng.ev, Act.eval] using hx
 | global g => simpa [Eng.ev, Act.eval] using hx
 | func f => simpa [Eng.ev, Act.eval] using hx
theorem On.evL {n : Nat} {l : Fr} {a : Act} (h : On n l a) : ∀ {xs : List Operand} {vs : List Value}, evL l xs = some vs → xs.map a.eval = vs
 | [], vs, hx => by simpa [Eng.evL] using hx
 | x :: r, vs, hx => by
  unfold Eng.evL at hx
  split at hx
  ·cases hx
  rename_i v hv
  split at hx
  ·cases hx
  rename_i us hus
  have h1 := h.ev hv
  have h2 := h.evL hus
  simp only [Option.some.injEq] at hx
  subst hx
  simp [h1, h2]
theorem beq_no {a b : Nat} (h : ¬ a = b) : Nat.beq a b = false := by
 cases e : Nat.beq a b with
 | false => rfl
 | true => exact absurd (Nat.eq_of_beq_eq_true e) h
theorem On.put {n : Nat} {l : Fr} {a : Act} (h : On n l a) {d : Nat} (hd : Nat.blt d n = true) (v : Value) : On n ((d, v) :: l) (a.put (some d) v) := by
 obtain ⟨h1, h2, h3⟩ := h
 have hdn : d < n := by simpa [Nat.blt_eq] using hd
 refine ⟨by simp [Act.put, h1], by simpa [Act.put] using h2, fun t u ht => ?_⟩
 unfold look at ht
 simp only [Act.put]
 by_cases e : d = t
 ·subst e
  simp at ht
  subst ht
  simp [h1, hdn]
 rw [beq_no e] at ht
 rw [Array.getElem?_setIfInBounds, if_neg e]
 exact h3 t u ht
def Sub (l : Fr) : Fr → Prop
 | [] => True
 | (k, v) :: r => look l k = some v ∧ Sub l r
theorem Sub.spec {l : Fr} : ∀ {r : Fr}, Sub l r → ∀ t v, look r t = some v → look l t = some v
 | [], _, t, v, h => by cases h
 | (k, u) :: r, hs, t, v, h => by
  unfold look at h
  by_cases e : k = t
  ·subst e; simp at h; subst h; exact hs.1
  rw [beq_no e] at h
  exact hs.2.spec t v h
theorem On.sub {n : Nat} {l r : Fr} {a : Act} (h : On n l a) (hs : Sub l r) : On n r a := ⟨h.1, h.2.1, fun t v ht => h.2.2 t v (hs.spec t v ht)⟩
abbrev Post := Exit → Act → World → Prop
def C (P : Program) (c : Code) (Q : Post) (n : Nat) (l : Fr) (w : World) : Prop := ∀ a, On n l a → c.wp P Q a w
def At (Q : Post) (e : Exit) (n : Nat) (l : Fr) (w : World) : Prop := ∀ a, On n l a → Q e a w
def W (P : Program) (ops : Array Oper) (Q : Post) (n : Nat) (rest : List Oper) (l : Fr) (w : World) : Prop := ∀ a, On n l a → wpList P ops Q rest a w
section
variable {P : Program} {Q : Post} {n : Nat} {l : Fr} {w : World} {x y : Code}
theorem C.sub (r : Fr) (hs : Sub l r) (h : C P x Q n r w) : C P x Q n l w := fun a ha => h a (ha.sub hs)
theorem C.mono {Q' : Post} (hq : ∀ e a w, Q e a w → Q' e a w) (h : C P x Q n l w) : C P x Q' n l w := fun a ha => wp_mono (h a ha) hq
theorem C.seq (h : C P x (Exit.then (y.wp P Q) Q) n l w) : C P (.seq x y) Q n l w := fun a ha => wp_seq (h a ha)
theorem C.skip (h : At Q .normal n l w) : C P .skip Q n l w := fun a ha => wp_skip (h a ha)
theorem C.label {k : Nat} (h : At Q .normal n l w) : C P (.label k) Q n l w := fun a ha => wp_label (h a ha)
theorem C.exit {id : Nat} (h : At Q (.exit id) n l w) : C P (.exit id) Q n l w := fun a ha => wp_exit (h a ha)
theorem C.goto {k : Nat} (h : At Q (.goto k) n l w) : C P (.goto k) Q n l w := fun a ha => wp_goto (h a ha)
theorem C.ret (h : At Q .ret n l w) : C P .ret Q n l w := fun a ha => wp_ret (h a ha)
theorem C.block {id : Nat} (h : C P x (Exit.inBlock id Q) n l w) : C P (.block id x) Q n l w := fun a ha => wp_block (h a ha)
theorem C.cond {c : Operand} {b : Bool} (hc : ev l c = some (.bool b)) (ht : b = true → C P x Q n l w) (hf : b = false → C P y Q n l w) : C P (.cond c x y) Q n l w :=
 fun a ha => wp_cond_split (ha.ev hc) (fun h => ht h a ha) (fun h => hf h a ha)
theorem C.condT {c : Operand} (hc : ev l c = some (.bool true)) (h : C P x Q n l w) : C P (.cond c x y) Q n l w := fun a ha => wp_cond_true (ha.ev hc) (h a ha)
theorem C.condF {c : Operand} (hc : ev l c = some (.bool false)) (h : C P y Q n l w) : C P (.cond c x y) Q n l w := fun a ha => wp_cond_false (ha.ev hc) (h a ha)
theorem At.seq (h : C P y Q n l w) : At (Exit.then (y.wp P Q) Q) .normal n l w := h
theorem At.thenRet {K : Act → World → Prop} (h : At Q .ret n l w) : At (Exit.then K Q) .ret n l w := h
theorem At.thenExit {K : Act → World → Prop} {id : Nat} (h : At Q (.exit id) n l w) : At (Exit.then K Q) (.exit id) n l w := h
theorem At.thenGoto {K : Act → World → Prop} {k : Nat} (h : At Q (.goto k) n l w) : At (Exit.then K Q) (.goto k) n l w := h
theorem At.blockNormal {id : Nat} (h : At Q .normal n l w) : At (Exit.inBlock id Q) .normal n l w := h
theorem At.blockRet {id : Nat} (h : At Q .ret n l w) : At (Exit.inBlock id Q) .ret n l w := h
theorem At.blockGoto {id k : Nat} (h : At Q (.goto k) n l w) : At (Exit.inBlock id Q) (.goto k) n l w := h
theorem At.blockExit {id : Nat} (h : At Q .normal n l w) : At (Exit.inBlock id Q) (.exit id) n l w := fun a ha => by simpa [Exit.inBlock] using h a ha
theorem At.blockExitNe {id id' : Nat} (hne : Nat.beq id' id = false) (h : At Q (.exit id') n l w) : At (Exit.inBlock id Q) (.exit id') n l w := fun a ha => by
 have : ¬ id' = id := fun e => by subst e; simp at hne
 simpa [Exit.inBlock, this] using h a ha
def Mid (n : Nat) (M : Fr → World → Prop) (a : Act) (w : World) : Prop := ∃ l, On n l a ∧ M l w
theorem C.cut (M : Fr → World → Prop) (h1 : C P x (Exit.then (Mid n M) Q) n l w) (h2 : ∀ l w, M l w → C P y Q n l w) : C P (.seq x y) Q n l w := by
 refine C.seq fun a ha => wp_mono (h1 a ha) ?_
 intro e a' w' hq
 cases e with
 | normal => obtain ⟨l', hl', hm⟩ := hq; exact h2 l' w' hm a' hl'
 | _ => exact hq
theorem At.cut {M : Fr → World → Prop} (r : Fr) (hs : Sub l r) (h : M r w) : At (Exit.then (Mid n M) Q) .normal n l w := fun _ ha => ⟨r, ha.sub hs, h⟩
theorem least {p : Nat → Prop} (h : ∃ m, p m) : ∃ m, p m ∧ ∀ k, p k → m ≤ k := by
 obtain ⟨m, hm⟩ := h
 induction m using Nat.strongRecOn with
 | _ m ih =>
  by_cases hs : ∃ k, k < m ∧ p k
  ·obtain ⟨k, hk, hp⟩ := hs; exact ih k hk hp
  exact ⟨m, hm, fun k hk => Nat.le_of_not_lt fun hlt => hs ⟨k, hlt, hk⟩⟩
theorem C.loop (I : Nat → Fr → World → Prop) (m : Nat) (h0 : I m l w)
 (hr : ∀ m l w, I m l w → C P x (Exit.then (Mid n fun l' w' => ∃ m', m' < m ∧ I m' l' w') Q) n l w) : C P (.loop x) Q n l w := by
 intro a ha
 classical
 let J : Act → World → Nat → Prop := fun a w m => ∃ l, On n l a ∧ I m l w
 refine wp_loop (fun a w => ∃ m, J a w m) (fun a w => if h : ∃ m, J a w m then Classical.choose (least h) else 0) ⟨m, l, ha, h0⟩ ?_
 intro a w hJ
 have hmin := Classical.choose_spec (least hJ)
 simp only [dif_pos hJ]
 generalize Classical.choose (least hJ) = k at hmin ⊢
 obtain ⟨⟨l, hl, hI⟩, -⟩ := hmin
 refine wp_mono (hr k l w hI a hl) ?_
 intro e a' w' hq
 cases e with
 | normal =>
  obtain ⟨l', hl', m', hlt, hI'⟩ := hq
  have hJ' : ∃ m, J a' w' m := ⟨m', l', hl', hI'⟩
  refine ⟨hJ', ?_⟩
  simp only [dif_pos hJ']
  exact Nat.lt_of_le_of_lt ((Classical.choose_spec (least hJ')).2 m' ⟨l', hl', hI'⟩) hlt
 | _ => exact hq
theorem C.region {id : Nat} {o : List Oper} (h : W P o.toArray Q n o l w) : C P (.region id o.toArray false) Q n l w := fun a ha => wp_region_lit (h a ha)
theorem W.nil {ops : Array Oper} (h : At Q .normal n l w) : W P ops Q n [] l w := h
def Runs (P : Program) (n : Nat) (l : Fr) (o : Oper) (w : World) (v : Next) (w' : World) : Prop := ∀ a, On n l a → (execOp a.eval o).run P w = .ok v w'
variable {ops : Array Oper} {rest : List Oper} {o : Oper} {v : Value} {d : Nat} {w' : World}
theorem W.q (hr : Runs P n l o w (.value v) w') (hg : o.guard = none) (hd : o.dst = some d) (hdn : Nat.blt d n = true) (h : W P ops Q n rest ((d, v) :: l) w') : W P ops Q n (o :: rest) l w := by
 intro a ha
 unfold wpList
 rw [if_pos (by simp [Region.wanted, hg])]
 left
 unfold Oper.wp
 rw [hr a ha]
 simp only [Oper.upon, hd]
 exact h _ (ha.put hdn v)
theorem W.skip (hr : Runs P n l o w .skip w') (hg : o.guard = none) (hd : o.dst = none) (h : W P ops Q n rest l w') : W P ops Q n (o :: rest) l w := by
 intro a ha
 unfold wpList
 rw [if_pos (by simp [Region.wanted, hg])]
 left
 unfold Oper.wp
 rw [hr a ha]
 simp only [Oper.upon, hd]
 exact h _ ha
def gval (ops : Array Oper) (l : Fr) (j : Nat) : Option Bool :=
 match ops[j]? with
 | none => none
 | some o => match o.dst with
  | none => none
  | some t => match look l t with
   | some (.bool b) => some b
   | _ => none
theorem On.gval {a : Act} (ha : On n l a) {j : Nat} {b : Bool} (h : gval ops l j = some b) : yielded ops a.tmps j = some b := by
 unfold Eng.gval at h
 split at h
 ·cases h
 rename_i o ho
 split at h
 ·cases h
 rename_i t ht
 split at h
 ·rename_i c hc
  simp only [Option.some.injEq] at h
  subst h
  have := ha.2.2 t _ hc
  unfold yielded
  simp [ho, ht, this]
 cases h
def gnone (ops : Array Oper) (l : Fr) (j : Nat) : Bool :=
 match ops[j]? with
 | none => false
 | some o => match o.dst with
  | none => false
  | some t => match look l t with
   | some (.tuple _) => true
   | _ => false
theorem On.gnone {a : Act} (ha : On n l a) {j : Nat} (h : gnone ops l j = true) : yielded ops a.tmps j = none := by
 unfold Eng.gnone at h
 split at h
 ·cases h
 rename_i o ho
 split at h
 ·cases h
 rename_i t ht
 split at h
 ·rename_i c hc
  have := ha.2.2 t _ hc
  unfold yielded
  simp [ho, ht, this]
 cases h
theorem W.gskipU {j : Nat} {c : Bool} (hgv : gnone ops l j = true) (hg : o.guard = some (j, c)) (hd : o.dst = some d) (hdn : Nat.blt d n = true) (h : W P ops Q n rest ((d, undef) :: l) w) : W P ops Q n (o :: rest) l w := by
 intro a ha
 unfold wpList
 have hne : Region.wanted o (yielded ops a.tmps) = false := by
  simp only [Region.wanted, hg, ha.gnone hgv]
  rfl
 rw [hne]
 simp only [Bool.false_eq_true, if_false, hd]
 exact h _ (ha.put hdn undef)
theorem W.gq {j : Nat} {b : Bool} (hgv : gval ops l j = some b) (hr : Runs P n l o w (.value v) w') (hg : o.guard = some (j, b)) (hd : o.dst = some d) (hdn : Nat.blt d n = true) (h : W P ops Q n rest ((d, v) :: l) w') : W P ops Q n (o :: rest) l w := by
 intro a ha
 unfold wpList
 rw [if_pos (by simp [Region.wanted, hg, ha.gval hgv])]
 left
 unfold Oper.wp
 rw [hr a ha]
 simp only [Oper.upon, hd]
 exact h _ (ha.put hdn v)
theorem W.gskip {j : Nat} {b c : Bool} (hgv : gval ops l j = some b) (hg : o.guard = some (j, c)) (hbc : (b == c) = false) (hd : o.dst = some d) (hdn : Nat.blt d n = true) (h : W P ops Q n rest ((d, undef) :: l) w) : W P ops Q n (o :: rest) l w := by
 intro a ha
 unfold wpList
 have hne : Region.wanted o (yielded ops a.tmps) = false := by
  simp only [Region.wanted, hg, ha.gval hgv]
  cases b <;> cases c <;> simp_all
 rw [hne]
 simp only [Bool.false_eq_true, if_false, hd]
 exact h _ (ha.put hdn undef)
end
end
section
variable [Df]
variable {P : Program} {Q : Post} {n : Nat} {l : Fr} {w w' : World} {ops : Array Oper} {rest : List Oper} {o : Oper} {v : Value} {d : Nat} {Cl : World → Prop}
def Wq (P : Program) (ops : Array Oper) (Cl : World → Prop) (Q : Act → Prop) (n : Nat) (rest : List Oper) (l : Fr) : Prop := ∀ a, On n l a → wpQuiet P ops Cl Q rest a
theorem C.draw {id : Nat} {o : List Oper} (Cl : World → Prop) (hm : P.follows .mixedOrders = true) (hB : Region.lexB .any o.toArray = true) (hC : Cl { w with drawn := w.drawn + 1 })
 (h : Wq P o.toArray Cl (fun a' => ∀ w', Cl w' → Q .normal a' w') n o l) : C P (.region id o.toArray true) Q n l w :=
 fun a ha => wp_region_quiet hm hB hC (by simpa using h a ha)
theorem Wq.nil (h : ∀ w', Cl w' → At Q .normal n l w') : Wq P ops Cl (fun a' => ∀ w', Cl w' → Q .normal a' w') n [] l :=
 fun a ha w' hw' => h w' hw' a ha
theorem Wq.q {Q : Act → Prop} (hr : ∀ w, Cl w → Runs P n l o w (.value v) w) (hg : o.guard = none) (hd : o.dst = some d) (hdn : Nat.blt d n = true) (h : Wq P ops Cl Q n rest ((d, v) :: l)) : Wq P ops Cl Q n (o :: rest) l := by
 intro a ha
 unfold wpQuiet
 rw [if_pos (by simp [Region.wanted, hg])]
 refine ⟨v, fun w hw => ?_, by rw [hd]; exact h _ (ha.put hdn v)⟩
 unfold Oper.quietAt
 rw [hr w hw a ha]
 exact ⟨rfl, rfl⟩
theorem Wq.gq {Q : Act → Prop} {j : Nat} {b : Bool} (hgv : gval ops l j = some b) (hr : ∀ w, Cl w → Runs P n l o w (.value v) w) (hg : o.guard = some (j, b)) (hd : o.dst = some d) (hdn : Nat.blt d n = true) (h : Wq P ops Cl Q n rest ((d, v) :: l)) : Wq P ops Cl Q n (o :: rest) l := by
 intro a ha
 unfold wpQuiet
 rw [if_pos (by simp [Region.wanted, hg, ha.gval hgv])]
 refine ⟨v, fun w hw => ?_, by rw [hd]; exact h _ (ha.put hdn v)⟩
 unfold Oper.quietAt
 rw [hr w hw a ha]
 exact ⟨rfl, rfl⟩
theorem Wq.gskip {Q : Act → Prop} {j : Nat} {b c : Bool} (hgv : gval ops l j = some b) (hg : o.guard = some (j, c)) (hbc : (b == c) = false) (hd : o.dst = some d) (hdn : Nat.blt d n = true) (h : Wq P ops Cl Q n rest ((d, undef) :: l)) : Wq P ops Cl Q n (o :: rest) l := by
 intro a ha
 unfold wpQuiet
 have hne : Region.wanted o (yielded ops a.tmps) = false := by
  simp only [Region.wanted, hg, ha.gval hgv]
  cases b <;> cases c <;> simp_all
 rw [hne]
 simp only [Bool.false_eq_true, if_false, hd]
 exact h _ (ha.put hdn undef)
theorem Wq.gskipU {Q : Act → Prop} {j : Nat} {c : Bool} (hgv : gnone ops l j = true) (hg : o.guard = some (j, c)) (hd : o.dst = some d) (hdn : Nat.blt d n = true) (h : Wq P ops Cl Q n rest ((d, undef) :: l)) : Wq P ops Cl Q n (o :: rest) l := by
 intro a ha
 unfold wpQuiet
 have hne : Region.wanted o (yielded ops a.tmps) = false := by
  simp only [Region.wanted, hg, ha.gnone hgv]
  rfl
 rw [hne]
 simp only [Bool.false_eq_true, if_false, hd]
 exact h _ (ha.put hdn undef)
theorem W.split {p : Prop} [Decidable p] (hr : Runs P n l o w (.value (.bool (decide p))) w) (hg : o.guard = none) (hd : o.dst = some d) (hdn : Nat.blt d n = true)
 (ht : p → W P ops Q n rest ((d, .bool true) :: l) w) (hf : ¬ p → W P ops Q n rest ((d, .bool false) :: l) w) : W P ops Q n (o :: rest) l w := by
 refine W.q hr hg hd hdn ?_
 by_cases h : p
 ·rw [decide_eq_true h]; exact ht h
 rw [decide_eq_false h]; exact hf h
theorem W.gsplit {j : Nat} {c : Bool} {p : Prop} [Decidable p] (hgv : gval ops l j = some c) (hr : Runs P n l o w (.value (.bool (decide p))) w) (hg : o.guard = some (j, c)) (hd : o.dst = some d) (hdn : Nat.blt d n = true)
 (ht : p → W P ops Q n rest ((d, .bool true) :: l) w) (hf : ¬ p → W P ops Q n rest ((d, .bool false) :: l) w) : W P ops Q n (o :: rest) l w := by
 refine W.gq hgv hr hg hd hdn ?_
 by_cases h : p
 ·rw [decide_eq_true h]; exact ht h
 rw [decide_eq_false h]; exact hf h
theorem W.splitB {b : Bool} (hr : Runs P n l o w (.value (.bool b)) w) (hg : o.guard = none) (hd : o.dst = some d) (hdn : Nat.blt d n = true)
 (ht : b = true → W P ops Q n rest ((d, .bool true) :: l) w) (hf : b = false → W P ops Q n rest ((d, .bool false) :: l) w) : W P ops Q n (o :: rest) l w := by
 refine W.q hr hg hd hdn ?_
 cases b
 ·exact hf rfl
 exact ht rfl
theorem Wq.split {Q : Act → Prop} {p : Prop} [Decidable p] (hr : ∀ w, Cl w → Runs P n l o w (.value (.bool (decide p))) w) (hg : o.guard = none) (hd : o.dst = some d) (hdn : Nat.blt d n = true)
 (ht : p → Wq P ops Cl Q n rest ((d, .bool true) :: l)) (hf : ¬ p → Wq P ops Cl Q n rest ((d, .bool false) :: l)) : Wq P ops Cl Q n (o :: rest) l := by
 refine Wq.q hr hg hd hdn ?_
 by_cases h : p
 ·rw [decide_eq_true h]; exact ht h
 rw [decide_eq_false h]; exact hf h
theorem Wq.gsplit {Q : Act → Prop} {j : Nat} {c : Bool} {p : Prop} [Decidable p] (hgv : gval ops l j = some c) (hr : ∀ w, Cl w → Runs P n l o w (.value (.bool (decide p))) w) (hg : o.guard = some (j, c)) (hd : o.dst = some d) (hdn : Nat.blt d n = true)
 (ht : p → Wq P ops Cl Q n rest ((d, .bool true) :: l)) (hf : ¬ p → Wq P ops Cl Q n rest ((d, .bool false) :: l)) : Wq P ops Cl Q n (o :: rest) l := by
 refine Wq.gq hgv hr hg hd hdn ?_
 by_cases h : p
 ·rw [decide_eq_true h]; exact ht h
 rw [decide_eq_false h]; exact hf h
theorem Wq.splitB {Q : Act → Prop} {b : Bool} (hr : ∀ w, Cl w → Runs P n l o w (.value (.bool b)) w) (hg : o.guard = none) (hd : o.dst = some d) (hdn : Nat.blt d n = true)
 (ht : b = true → Wq P ops Cl Q n rest ((d, .bool true) :: l)) (hf : b = false → Wq P ops Cl Q n rest ((d, .bool false) :: l)) : Wq P ops Cl Q n (o :: rest) l := by
 refine Wq.q hr hg hd hdn ?_
 cases b
 ·exact hf rfl
 exact ht rfl
theorem W.cut (i : Nat) (M : Fr → World → Prop) (h1 : W P ops (Exit.then (Mid n M) Q) n (rest.take i) l w) (h2 : ∀ l w, M l w → W P ops Q n (rest.drop i) l w) : W P ops Q n rest l w := by
 intro a ha
 have key : ∀ (pre post : List Oper) (a : Act) (w : World), wpList P ops (Exit.then (wpList P ops Q post) Q) pre a w → wpList P ops Q (pre ++ post) a w := by
  intro pre post
  induction pre with
  | nil => intro a w h; exact h
  | cons o pre ih =>
   intro a w h
   simp only [List.cons_append]
   unfold wpList at h ⊢
   have hmono : ∀ (K K' : Act → World → Prop) (Q' : Post), (∀ a w, K a w → K' a w) → (∀ e a w, e ≠ .normal → Q' e a w → Q e a w) → o.wp P a w K Q' → o.wp P a w K' Q := by
    intro K K' Q' hK hQ hh
    unfold Oper.wp at *
    generalize (execOp a.eval o).run P w = r at *
    cases r with
    | ok nx w' =>
     cases nx <;> simp only [Oper.upon] at hh ⊢ <;> first
      | exact hK _ _ hh
      | exact hh
      | (refine Calls.mono hh ?_
         intro e w'' he
         cases e with
         | returned v => exact hK _ _ he
         | panicked ch => exact hQ _ _ _ (by simp) he
         | outgrown => obtain ⟨a0, w0, h0⟩ := he; exact ⟨a0, w0, hQ _ _ _ (by simp) h0⟩)
      | (exact Rows.mono hh fun v w'' hv => hK _ _ hv)
    | halt hh' w' => cases hh' <;> simp only [Oper.upon] at hh ⊢ <;> first | exact hQ _ _ _ (by simp) hh | exact hh
   split
   ·rename_i hw
    rw [if_pos hw] at h
    rcases h with h | ⟨h, a0, w0, h0⟩
    ·exact .inl (hmono _ _ _ (fun a w h => ih a w h) (fun e a w hne hq => by cases e <;> first | exact absurd rfl hne | exact hq) h)
    exact .inr ⟨h, a0, w0, h0⟩
   rename_i hw
   rw [if_neg hw] at h
   exact ih _ _ h
 have h3 := key (rest.take i) (rest.drop i) a w
 rw [List.take_append_drop] at h3
 refine h3 ?_
 have mono2 : ∀ (pre : List Oper) (Q1 Q2 : Post), (∀ e a w, Q1 e a w → Q2 e a w) → ∀ a w, wpList P ops Q1 pre a w → wpList P ops Q2 pre a w := by
  intro pre Q1 Q2 hq
  induction pre with
  | nil => intro a w h; exact hq _ _ _ h
  | cons o pre ih =>
   intro a w h
   unfold wpList at h ⊢
   split
   ·rename_i hw
    rw [if_pos hw] at h
    rcases h with h | ⟨h, a0, w0, h0⟩
    ·left
     unfold Oper.wp at *
     generalize (execOp a.eval o).run P w = r at *
     cases r with
     | ok nx w' =>
      cases nx <;> simp only [Oper.upon] at h ⊢ <;> first
       | exact ih _ _ h
       | exact h
       | (refine Calls.mono h ?_
          intro e w'' he
          cases e with
          | returned v => exact ih _ _ he
          | panicked ch => exact hq _ _ _ he
          | outgrown => obtain ⟨a0, w0, h0⟩ := he; exact ⟨a0, w0, hq _ _ _ h0⟩)
       | (exact Rows.mono h fun v w'' hv => ih _ _ hv)
     | halt hh' w' => cases hh' <;> simp only [Oper.upon] at h ⊢ <;> first | exact hq _ _ _ h | exact h
    exact .inr ⟨h, a0, w0, hq _ _ _ h0⟩
   rename_i hw
   rw [if_neg hw] at h
   exact ih _ _ h
 refine mono2 _ _ _ ?_ a w (h1 a ha)
 intro e a' w' hh
 cases e with
 | normal => obtain ⟨l', hl', hm⟩ := hh; exact h2 l' w' hm a' hl'
 | _ => exact hh
def CR (P : Program) (f : FuncId) (args : List Value) (w : World) (R : Value → World → Prop) : Prop := Calls P f args.toArray w fun e w' => ∃ v, e = .returned v ∧ R v w'
theorem CR.mono {f : FuncId} {args : List Value} {R R' : Value → World → Prop} (h : CR P f args w R) (hr : ∀ v w', R v w' → R' v w') : CR P f args w R' :=
 Calls.mono h fun _ _ ⟨v, he, hv⟩ => ⟨v, he, hr _ _ hv⟩
theorem W.enter {f : FuncId} {args : List Value} {R : Value → World → Prop} (hr : Runs P n l o w (.enter f args.toArray) w') (hg : o.guard = none) (hd : o.dst = some d) (hdn : Nat.blt d n = true) (hc : CR P f args w' R)
 (h : ∀ v w'', R v w'' → W P ops Q n rest ((d, v) :: l) w'') : W P ops Q n (o :: rest) l w := by
 intro a ha
 unfold wpList
 rw [if_pos (by simp [Region.wanted, hg])]
 left
 unfold Oper.wp
 rw [hr a ha]
 simp only [Oper.upon, hd]
 refine Calls.mono hc ?_
 rintro e w'' ⟨v, rfl, hv⟩
 exact h v w'' hv _ (ha.put hdn v)
theorem W.genter {j : Nat} {b : Bool} {f : FuncId} {args : List Value} {R : Value → World → Prop} (hgv : gval ops l j = some b) (hr : Runs P n l o w (.enter f args.toArray) w') (hg : o.guard = some (j, b)) (hd : o.dst = some d) (hdn : Nat.blt d n = true) (hc : CR P f args w' R)
 (h : ∀ v w'', R v w'' → W P ops Q n rest ((d, v) :: l) w'') : W P ops Q n (o :: rest) l w := by
 intro a ha
 unfold wpList
 rw [if_pos (by simp [Region.wanted, hg, ha.gval hgv])]
 left
 unfold Oper.wp
 rw [hr a ha]
 simp only [Oper.upon, hd]
 refine Calls.mono hc ?_
 rintro e w'' ⟨v, rfl, hv⟩
 exact h v w'' hv _ (ha.put hdn v)
theorem Wq.enter {Q : Act → Prop} {f : FuncId} {args : List Value} (hr : ∀ w, Cl w → Runs P n l o w (.enter f args.toArray) w) (hg : o.guard = none) (hd : o.dst = some d) (hdn : Nat.blt d n = true)
 (hc : ∀ w, Cl w → CR P f args w fun u w' => u = v ∧ Cl w') (h : Wq P ops Cl Q n rest ((d, v) :: l)) : Wq P ops Cl Q n (o :: rest) l := by
 intro a ha
 unfold wpQuiet
 rw [if_pos (by simp [Region.wanted, hg])]
 refine ⟨v, fun w hw => ?_, by rw [hd]; exact h _ (ha.put hdn v)⟩
 unfold Oper.quietAt
 rw [hr w hw a ha]
 refine ⟨rfl, Calls.mono (hc w hw) ?_⟩
 rintro e w'' ⟨u, rfl, rfl, hw''⟩
 exact ⟨rfl, hw''⟩
theorem Wq.genter {Q : Act → Prop} {j : Nat} {b : Bool} {f : FuncId} {args : List Value} (hgv : gval ops l j = some b) (hr : ∀ w, Cl w → Runs P n l o w (.enter f args.toArray) w) (hg : o.guard = some (j, b)) (hd : o.dst = some d) (hdn : Nat.blt d n = true)
 (hc : ∀ w, Cl w → CR P f args w fun u w' => u = v ∧ Cl w') (h : Wq P ops Cl Q n rest ((d, v) :: l)) : Wq P ops Cl Q n (o :: rest) l := by
 intro a ha
 unfold wpQuiet
 rw [if_pos (by simp [Region.wanted, hg, ha.gval hgv])]
 refine ⟨v, fun w hw => ?_, by rw [hd]; exact h _ (ha.put hdn v)⟩
 unfold Oper.quietAt
 rw [hr w hw a ha]
 refine ⟨rfl, Calls.mono (hc w hw) ?_⟩
 rintro e w'' ⟨u, rfl, rfl, hw''⟩
 exact ⟨rfl, hw''⟩
end
section
variable {P : Program} {Q : Post} {n : Nat} {l : Fr} {w w' : World} {ops : Array Oper} {rest : List Oper} {o : Oper} {v : Value} {d : Nat} {Cl : World → Prop}
def argsOk (args : List Value) : Fr → Prop
 | [] => True
 | (k, v) :: r => args[k]? = some v ∧ argsOk args r
theorem argsOk.spec {args : List Value} : ∀ {l : Fr}, argsOk args l → ∀ t v, look l t = some v → args[t]? = some v
 | [], _, t, v, h => by cases h
 | (k, u) :: r, hs, t, v, h => by
  unfold look at h
  by_cases e : k = t
  ·subst e; simp at h; subst h; exact hs.1
  rw [beq_no e] at h
  exact hs.2.spec t v h
theorem CR.of {f : FuncId} {fn : Func} {c : Code} {args : List Value} {R : Value → World → Prop} (l : Fr) (hf : P.funcs[f]? = some fn) (hb : fn.body = some c) (hn : fn.ntmps = n) (hle : Nat.ble args.length n = true) (hl : argsOk args l)
 (h : C P c (bodyPost P fn fun e w' => ∃ v, e = .returned v ∧ R v w') n l w) : CR P f args w R := by
 refine calls_of_wp hf hb (h _ ⟨?_, rfl, ?_⟩)
 ·have : args.length ≤ n := by simpa using hle
  simp [hn]; omega
 intro t v ht
 have h1 := hl.spec t v ht
 have h2 : t < args.length := by
  rcases Nat.lt_or_ge t args.length with h | h
  ·exact h
  rw [List.getElem?_eq_none h] at h1; cases h1
 rw [List.getElem?_eq_getElem h2] at h1
 simpa [Array.getElem?_append, h2] using h1
variable {fn : Func} {R : Value → World → Prop}
theorem At.res1 {t : Nat} (hres : fn.results = #[.tmp t]) (hv : look l t = some v) (h : R v w) : At (bodyPost P fn fun e w' => ∃ v, e = .returned v ∧ R v w') .ret n l w := by
 intro a ha
 have := ha.ev (x := .tmp t) hv
 exact bodyPost_ret (results_tmp hres _ _ _) ha.2.1 ⟨v, by simpa [Act.eval] using this, h⟩
theorem At.res0 (hres : fn.results = #[]) (h : R (.tuple #[]) w) : At (bodyPost P fn fun e w' => ∃ v, e = .returned v ∧ R v w') .normal n l w := by
 intro a ha
 exact bodyPost_end (results_none hres _ _ _) ha.2.1 ⟨_, rfl, h⟩
theorem At.res0r (hres : fn.results = #[]) (h : R (.tuple #[]) w) : At (bodyPost P fn fun e w' => ∃ v, e = .returned v ∧ R v w') .ret n l w := by
 intro a ha
 exact bodyPost_ret (results_none hres _ _ _) ha.2.1 ⟨_, rfl, h⟩
theorem At.res2 {t u : Nat} {v u' : Value} (hres : fn.results = #[.tmp t, .tmp u]) (hv : look l t = some v) (hu : look l u = some u') (h : R (.tuple #[v, u']) w) : At (bodyPost P fn fun e w' => ∃ v, e = .returned v ∧ R v w') .ret n l w := by
 intro a ha
 have h1 := ha.ev (x := .tmp t) hv
 have h2 := ha.ev (x := .tmp u) hu
 simp only [Act.eval] at h1 h2
 exact bodyPost_ret (results_tmp2 hres _ _ _) ha.2.1 ⟨_, by rw [h1, h2], h⟩
theorem At.res3 {t u s : Nat} {v u' s' : Value} (hres : fn.results = #[.tmp t, .tmp u, .tmp s]) (hv : look l t = some v) (hu : look l u = some u') (hs : look l s = some s') (h : R (.tuple #[v, u', s']) w) : At (bodyPost P fn fun e w' => ∃ v, e = .returned v ∧ R v w') .ret n l w := by
 intro a ha
 have h1 := ha.ev (x := .tmp t) hv
 have h2 := ha.ev (x := .tmp u) hu
 have h3 := ha.ev (x := .tmp s) hs
 simp only [Act.eval] at h1 h2 h3
 exact bodyPost_ret (results_tmp3 hres _ _ _) ha.2.1 ⟨_, by rw [h1, h2, h3], h⟩
theorem At.resCell {t ty : Nat} {a0 : Addr} (hres : fn.results = #[.cell t ty]) (hv : look l t = some (.pointer (some a0))) (hload : (loadVar ty a0).run P w = .ok v w) (h : R v w) : At (bodyPost P fn fun e w' => ∃ v, e = .returned v ∧ R v w') .ret n l w := by
 intro a ha
 have h1 := ha.ev (x := .tmp t) hv
 simp only [Act.eval] at h1
 refine bodyPost_ret (v := v) ?_ ha.2.1 ⟨_, rfl, h⟩
 have h2 : a.tmps[t]?.getD undef = .pointer (some a0) := by simpa using h1
 simp [results, hres, h2, asAddr, hload]
end
end Eng
end Go.Proofs.YtogfnbkccfkpoaaGreatDoor
set_option linter.unusedSimpArgs false
set_option linter.unusedVariables false
namespace Go.Proofs.YtogfnbkccfkpoaaGreatDoor
open Go Go.RowKit
noncomputable abbrev PR : Program := Tryz.prog
abbrev str (l : List UInt8) : Value := .string ⟨l.toArray⟩
def byteAt (s : List UInt8) (i : Nat) : Nat := (s.getD i 0).toNat
theorem byteAt_lt (s : List UInt8) (i : Nat) : byteAt s i < 256 := UInt8.toNat_lt _
namespace Eng
section
variable [Df]
variable {P : Program} {n : Nat} {l : Fr} {w w' : World} {v : Value} {dst : Option Nat} {ty : TypeId} {pos : String} {af : Array Edge} {g : Option (Nat × Bool)} {x y z : Operand}
theorem R.move (hx : ev l x = some v) : Runs P n l ⟨dst, .move x, ty, pos, af, g⟩ w (.value v) w := fun a ha => by simp [execOp, ha.ev hx]
theorem R.assign (hx : ev l x = some v) : Runs P n l ⟨dst, .assign x, ty, pos, af, g⟩ w (.value v) w := fun a ha => by simp [execOp, ha.ev hx]
theorem R.pickT (hz : ev l z = some (.bool true)) (hx : ev l x = some v) : Runs P n l ⟨dst, .pick z x y, ty, pos, af, g⟩ w (.value v) w := fun a ha => by
 simp [execOp, ha.ev hx, ha.ev hz, asBool]
theorem R.pickF (hz : ev l z = some (.bool false)) (hy : ev l y = some v) : Runs P n l ⟨dst, .pick z x y, ty, pos, af, g⟩ w (.value v) w := fun a ha => by
 simp [execOp, ha.ev hy, ha.ev hz, asBool]
theorem R.nilPtr {p : Addr} (hx : ev l x = some (.pointer (some p))) : Runs P n l ⟨dst, .nilCheck x, ty, pos, af, g⟩ w (.value (.pointer (some p))) w := fun a ha => by
 simp [execOp, ha.ev hx]
theorem R.not {b : Bool} {t : TypeId} (hx : ev l x = some (.bool b)) : Runs P n l ⟨dst, .unOp .not t x, ty, pos, af, g⟩ w (.value (.bool !b)) w := fun a ha => by
 simp [execOp, ha.ev hx, Op.unary]
theorem R.neg {k : IntKind} {i : Int} {t : TypeId} (hx : ev l x = some (.int k i)) (hw : k.wrap (-i) = -i) : Runs P n l ⟨dst, .unOp .neg t x, ty, pos, af, g⟩ w (.value (.int k (-i))) w := fun a ha => by
 simp [execOp, ha.ev hx, Op.unary, Op.intArith, hw]
theorem R.extract {vs : Array Value} {i : Nat} (hx : ev l x = some (.tuple vs)) (hv : vs[i]? = some v) : Runs P n l ⟨dst, .extract x i, ty, pos, af, g⟩ w (.value v) w := fun a ha => by
 simp [execOp, ha.ev hx, Instr.extract, hv]
theorem beq_dec {α : Type} [BEq α] [LawfulBEq α] [DecidableEq α] (i j : α) : (i == j) = decide (i = j) := by rw [Bool.eq_iff_iff]; simp
section ints
variable {k : IntKind} {i j : Int} {t u : TypeId}
theorem R.add (hx : ev l x = some (.int k i)) (hy : ev l y = some (.int k j)) : Runs P n l ⟨dst, .binOp .add t x y u, ty, pos, af, g⟩ w (.value (.int k (k.wrap (i + j)))) w := fun a ha => by
 simp [execOp, ha.ev hx, ha.ev hy, eqGuard, binOp, Op.intArith]
theorem R.sub (hx : ev l x = some (.int k i)) (hy : ev l y = some (.int k j)) : Runs P n l ⟨dst, .binOp .sub t x y u, ty, pos, af, g⟩ w (.value (.int k (k.wrap (i - j)))) w := fun a ha => by
 simp [execOp, ha.ev hx, ha.ev hy, eqGuard, binOp, Op.intArith]
theorem R.mul (hx : ev l x = some (.int k i)) (hy : ev l y = some (.int k j)) : Runs P n l ⟨dst, .binOp .mul t x y u, ty, pos, af, g⟩ w (.value (.int k (k.wrap (i * j)))) w := fun a ha => by
 simp [execOp, ha.ev hx, ha.ev hy, eqGuard, binOp, Op.intArith]
theorem R.addTo (r : Int) (hx : ev l x = some (.int k i)) (hy : ev l y = some (.int k j)) (hr : k.wrap (i + j) = r) : Runs P n l ⟨dst, .binOp .add t x y u, ty, pos, af, g⟩ w (.value (.int k r)) w := by
 subst hr; exact R.add hx hy
theorem R.subTo (r : Int) (hx : ev l x = some (.int k i)) (hy : ev l y = some (.int k j)) (hr : k.wrap (i - j) = r) : Runs P n l ⟨dst, .binOp .sub t x y u, ty, pos, af, g⟩ w (.value (.int k r)) w := by
 subst hr; exact R.sub hx hy
theorem R.mulTo (r : Int) (hx : ev l x = some (.int k i)) (hy : ev l y = some (.int k j)) (hr : k.wrap (i * j) = r) : Runs P n l ⟨dst, .binOp .mul t x y u, ty, pos, af, g⟩ w (.value (.int k r)) w := by
 subst hr; exact R.mul hx hy
theorem wrap_nat {m : Nat} (h : m < 9223372036854775808) : IntKind.i64.wrap (m : Int) = (m : Int) := IntWalk.i64_in _ (by omega)
theorem wrap_u8 {m : Nat} (h : m < 256) : IntKind.u8.wrap (m : Int) = (m : Int) := by
 simp [IntKind.wrap, IntKind.signed, IntKind.bits]; omega
theorem R.addN {a0 b0 : Nat} (hx : ev l x = some (.int .i64 (a0 : Int))) (hy : ev l y = some (.int .i64 (b0 : Int))) (h : a0 + b0 < 9223372036854775808) : Runs P n l ⟨dst, .binOp .add t x y u, ty, pos, af, g⟩ w (.value (.int .i64 ((a0 + b0 : Nat) : Int))) w :=
 R.addTo _ hx hy (by rw [← Int.natCast_add]; exact wrap_nat h)
theorem R.addK {a0 : Nat} (b0 : Nat) (hx : ev l x = some (.int .i64 (a0 : Int))) (hy : ev l y = some (.int .i64 (b0 : Int))) (h : a0 + b0 < 9223372036854775808) : Runs P n l ⟨dst, .binOp .add t x y u, ty, pos, af, g⟩ w (.value (.int .i64 ((a0 + b0 : Nat) : Int))) w :=
 R.addN hx hy h
theorem R.subN {a0 : Nat} (b0 : Nat) (hx : ev l x = some (.int .i64 (a0 : Int))) (hy : ev l y = some (.int .i64 (b0 : Int))) (h : a0 < 9223372036854775808) (hle : b0 ≤ a0) : Runs P n l ⟨dst, .binOp .sub t x y u, ty, pos, af, g⟩ w (.value (.int .i64 ((a0 - b0 : Nat) : Int))) w :=
 R.subTo _ hx hy (by rw [← Int.natCast_sub hle]; exact wrap_nat (by omega))
theorem R.subB {a0 : Nat} (b0 : Nat) (hx : ev l x = some (.int .u8 (a0 : Int))) (hy : ev l y = some (.int .u8 (b0 : Int))) (h : a0 < 256) (hle : b0 ≤ a0) : Runs P n l ⟨dst, .binOp .sub t x y u, ty, pos, af, g⟩ w (.value (.int .u8 ((a0 - b0 : Nat) : Int))) w :=
 R.subTo _ hx hy (by rw [← Int.natCast_sub hle]; exact wrap_u8 (by omega))
theorem R.addB {a0 : Nat} (b0 : Nat) (hx : ev l x = some (.int .u8 (a0 : Int))) (hy : ev l y = some (.int .u8 (b0 : Int))) (h : a0 + b0 < 256) : Runs P n l ⟨dst, .binOp .add t x y u, ty, pos, af, g⟩ w (.value (.int .u8 ((a0 + b0 : Nat) : Int))) w :=
 R.addTo _ hx hy (by rw [← Int.natCast_add]; exact wrap_u8 h)
theorem R.mulK {a0 : Nat} (b0 : Nat) (hx : ev l x = some (.int .i64 (b0 : Int))) (hy : ev l y = some (.int .i64 (a0 : Int))) (h : b0 * a0 < 9223372036854775808) : Runs P n l ⟨dst, .binOp .mul t x y u, ty, pos, af, g⟩ w (.value (.int .i64 ((b0 * a0 : Nat) : Int))) w :=
 R.mulTo _ hx hy (by rw [← Int.natCast_mul]; exact wrap_nat h)
theorem R.cv {src dst' : TypeId} {k' : IntKind} {i' : Int} (hx : ev l x = some (.int k i)) (hd : P.underlying dst' = some (.int k')) (hs : (P.underlying src).isSome = true) (hw : k'.wrap i = i') : Runs P n l ⟨dst, .convert src dst' x, ty, pos, af, g⟩ w (.value (.int k' i')) w := fun a ha => by
 obtain ⟨d0, hd0⟩ := Option.isSome_iff_exists.mp hs
 subst hw
 simp only [execOp, ha.ev hx]
 simp [convert, run_underlying hd0, run_underlying hd, Conv.intToInt]
theorem R.cvN {src dst' : TypeId} {a0 : Nat} (hx : ev l x = some (.int k (a0 : Int))) (hd : P.underlying dst' = some (.int .i64)) (hs : (P.underlying src).isSome = true) (h : a0 < 9223372036854775808) : Runs P n l ⟨dst, .convert src dst' x, ty, pos, af, g⟩ w (.value (.int .i64 (a0 : Int))) w :=
 R.cv hx hd hs (wrap_nat h)
theorem R.min2 {a0 : Nat} (b0 : Nat) (hx : ev l x = some (.int .i64 (a0 : Int))) (hy : ev l y = some (.int .i64 (b0 : Int))) : Runs P n l ⟨dst, .call ⟨.builtin .min, #[x, y], #[t, u]⟩, ty, pos, af, g⟩ w (.value (.int .i64 ((min a0 b0 : Nat) : Int))) w := fun a ha => by
 have e : min (a0 : Int) (b0 : Int) = ((min a0 b0 : Nat) : Int) := by omega
 simp [execOp, resolve, invoke, builtin, ha.ev hx, ha.ev hy, Lib.run_min_ints, e]
theorem R.max2 {a0 : Nat} (b0 : Nat) (hx : ev l x = some (.int .i64 (b0 : Int))) (hy : ev l y = some (.int .i64 (a0 : Int))) : Runs P n l ⟨dst, .call ⟨.builtin .max, #[x, y], #[t, u]⟩, ty, pos, af, g⟩ w (.value (.int .i64 ((max b0 a0 : Nat) : Int))) w := fun a ha => by
 have e : max (b0 : Int) (a0 : Int) = ((max b0 a0 : Nat) : Int) := by omega
 simp [execOp, resolve, invoke, builtin, ha.ev hx, ha.ev hy, Lib.run_max_ints, e]
theorem R.eqI (hx : ev l x = some (.int k i)) (hy : ev l y = some (.int k j)) : Runs P n l ⟨dst, .binOp .eql t x y u, ty, pos, af, g⟩ w (.value (.bool (decide (i = j)))) w := fun a ha => by
 simp only [execOp, ha.ev hx, ha.ev hy]
 simp [eqGuard, binOp, Op.intCmp, beq_dec]
theorem R.neI (hx : ev l x = some (.int k i)) (hy : ev l y = some (.int k j)) : Runs P n l ⟨dst, .binOp .neq t x y u, ty, pos, af, g⟩ w (.value (.bool (decide (¬ i = j)))) w := fun a ha => by
 simp only [execOp, ha.ev hx, ha.ev hy]
 simp [eqGuard, binOp, Op.intCmp, bne, beq_dec]
theorem R.ltI (hx : ev l x = some (.int k i)) (hy : ev l y = some (.int k j)) : Runs P n l ⟨dst, .binOp .lss t x y u, ty, pos, af, g⟩ w (.value (.bool (decide (i < j)))) w := fun a ha => by
 simp [execOp, ha.ev hx, ha.ev hy, eqGuard, binOp, Op.intCmp]
theorem R.leI (hx : ev l x = some (.int k i)) (hy : ev l y = some (.int k j)) : Runs P n l ⟨dst, .binOp .leq t x y u, ty, pos, af, g⟩ w (.value (.bool (decide (i ≤ j)))) w := fun a ha => by
 simp [execOp, ha.ev hx, ha.ev hy, eqGuard, binOp, Op.intCmp]
theorem R.gtI (hx : ev l x = some (.int k i)) (hy : ev l y = some (.int k j)) : Runs P n l ⟨dst, .binOp .gtr t x y u, ty, pos, af, g⟩ w (.value (.bool (decide (j < i)))) w := fun a ha => by
 simp [execOp, ha.ev hx, ha.ev hy, eqGuard, binOp, Op.intCmp]
theorem R.geI (hx : ev l x = some (.int k i)) (hy : ev l y = some (.int k j)) : Runs P n l ⟨dst, .binOp .geq t x y u, ty, pos, af, g⟩ w (.value (.bool (decide (j ≤ i)))) w := fun a ha => by
 simp [execOp, ha.ev hx, ha.ev hy, eqGuard, binOp, Op.intCmp]
end ints
section strs
variable {s r : List UInt8} {t u : TypeId}
theorem toList_str (s : List UInt8) : (⟨s.toArray⟩ : ByteArray).toList = s := by rw [Lib.toList_data]
theorem R.eqS (hx : ev l x = some (str s)) (hy : ev l y = some (str r)) : Runs P n l ⟨dst, .binOp .eql t x y u, ty, pos, af, g⟩ w (.value (.bool (decide (s = r)))) w := fun a ha => by
 simp only [execOp, ha.ev hx, ha.ev hy]
 simp only [eqGuard, binOp, Op.stringOp, toList_str, beq_dec]
 simp
theorem R.neS (hx : ev l x = some (str s)) (hy : ev l y = some (str r)) : Runs P n l ⟨dst, .binOp .neq t x y u, ty, pos, af, g⟩ w (.value (.bool (decide (¬ s = r)))) w := fun a ha => by
 simp only [execOp, ha.ev hx, ha.ev hy]
 simp only [eqGuard, binOp, Op.stringOp, toList_str, beq_dec]
 simp
theorem R.addS (hx : ev l x = some (str s)) (hy : ev l y = some (str r)) (h : s.length + r.length < 9223372036854775808) : Runs P n l ⟨dst, .binOp .add t x y u, ty, pos, af, g⟩ w (.value (str (s ++ r))) w := fun a ha => by
 simp only [execOp, ha.ev hx, ha.ev hy]
 have h1 : ¬ (9223372036854775807 : Int) < ((s.length + r.length : Nat) : Int) := by omega
 have e : (⟨s.toArray⟩ : ByteArray) ++ ⟨r.toArray⟩ = ⟨(s ++ r).toArray⟩ := by
  apply ByteArray.ext; simp
 have hz : ∀ q : List UInt8, (⟨q.toArray⟩ : ByteArray).size = q.length := fun q => by simp [ByteArray.size]
 simp only [eqGuard, binOp, Op.stringOp, hz, IntKind.max_i64, gt_iff_lt, h1, if_false, e]
 simp
theorem R.lenS (hx : ev l x = some (str s)) (hu : P.underlying t = some .string) : Runs P n l ⟨dst, .call ⟨.builtin .len, #[x], #[t]⟩, ty, pos, af, g⟩ w (.value (.int .i64 (s.length : Int))) w := fun a ha => by
 have hz : (⟨s.toArray⟩ : ByteArray).size = s.length := by simp [ByteArray.size]
 simp [execOp, resolve, invoke, builtin, Builtin.len_, ha.ev hx, run_underlying hu, goInt, hz]
theorem R.idxS {k : IntKind} {i : Int} (hx : ev l x = some (str s)) (hy : ev l y = some (.int k i)) (m : Nat) (hm : i = (m : Int)) (hlt : m < s.length) (hu : P.underlying t = some .string) : Runs P n l ⟨dst, .index t x y, ty, pos, af, g⟩ w (.value (.int .u8 (byteAt s m : Int))) w := fun a ha => by
 subst hm
 have e : (⟨s.toArray⟩ : ByteArray)[m]? = some s[m] := by
  show (if h : m < (⟨s.toArray⟩ : ByteArray).size then some _ else none) = _
  rw [dif_pos (by simpa [ByteArray.size] using hlt)]
  rfl
 simp only [execOp, ha.ev hx, ha.ev hy]
 simp [Instr.index, asIntOf, run_underlying hu, e, byteAt, hlt]
theorem R.sliceS {lo hi : Nat} {a1 b1 : Int} (hx : ev l x = some (str s)) (hy : ev l y = some (.int .i64 a1)) (hz : ev l z = some (.int .i64 b1)) (ha1 : a1 = (lo : Int)) (hb1 : b1 = (hi : Int)) (h1 : lo ≤ hi) (h2 : hi ≤ s.length) (hu : P.underlying t = some .string) :
 Runs P n l ⟨dst, .slice t x (some y) (some z) none, ty, pos, af, g⟩ w (.value (str ((s.drop lo).take (hi - lo)))) w := fun a ha => by
 subst ha1 hb1
 have hsz : (⟨s.toArray⟩ : ByteArray).size = s.length := by simp [ByteArray.size]
 simp only [execOp, ha.ev hx, ha.ev hy, ha.ev hz, Option.map_some, Option.map_none]
 simp [Instr.sliceAt, Instr.slice, Instr.sliceBounds, Instr.sliceBound, asIntOf, run_underlying hu, hsz, h1, h2, Lib.extract_eq]
theorem R.sliceFrom {lo : Nat} {a1 : Int} (hx : ev l x = some (str s)) (hy : ev l y = some (.int .i64 a1)) (ha1 : a1 = (lo : Int)) (h1 : lo ≤ s.length) (hu : P.underlying t = some .string) :
 Runs P n l ⟨dst, .slice t x (some y) none none, ty, pos, af, g⟩ w (.value (str (s.drop lo))) w := fun a ha => by
 subst ha1
 have hsz : (⟨s.toArray⟩ : ByteArray).size = s.length := by simp [ByteArray.size]
 simp only [execOp, ha.ev hx, ha.ev hy, Option.map_some, Option.map_none]
 have e3 : (s.drop lo).take (s.length - lo) = s.drop lo := List.take_of_length_le (by simp)
 simp [Instr.sliceAt, Instr.slice, Instr.sliceBounds, Instr.sliceBound, asIntOf, run_underlying hu, hsz, h1, Lib.extract_eq, e3]
theorem R.sliceTo {hi : Nat} {b1 : Int} (hx : ev l x = some (str s)) (hz : ev l z = some (.int .i64 b1)) (hb1 : b1 = (hi : Int)) (h2 : hi ≤ s.length) (hu : P.underlying t = some .string) :
 Runs P n l ⟨dst, .slice t x none (some z) none, ty, pos, af, g⟩ w (.value (str (s.take hi))) w := fun a ha => by
 subst hb1
 have hsz : (⟨s.toArray⟩ : ByteArray).size = s.length := by simp [ByteArray.size]
 simp only [execOp, ha.ev hx, ha.ev hz, Option.map_some, Option.map_none]
 simp [Instr.sliceAt, Instr.slice, Instr.sliceBounds, Instr.sliceBound, asIntOf, run_underlying hu, hsz, h2, Lib.extract_eq]
end strs
end
end Eng
def Blk (w : World) (b : Nat) (t : TypeId) (cs : List Value) : Prop := w.heap[b]? = some (.cells cs.toArray t (0, 0))
theorem Blk.lt {w : World} {b : Nat} {t : TypeId} {cs : List Value} (h : Blk w b t cs) : b < w.heap.size := by
 rcases Nat.lt_or_ge b w.heap.size with h1 | h1
 ·exact h1
 unfold Blk at h; rw [Array.getElem?_eq_none h1] at h; cases h
theorem Blk.cell {w : World} {b : Nat} {t : TypeId} {cs : List Value} (h : Blk w b t cs) {k : Nat} {v : Value} (hk : cs[k]? = some v) : w.cell? ⟨b, k, none⟩ = some v := by
 unfold Blk at h
 simp [World.cell?, h, hk]
theorem Blk.frozen {w : World} {b : Nat} {t : TypeId} {cs : List Value} (h : Blk w b t cs) (k : Nat) : w.frozen? ⟨b, k, none⟩ = false := by
 unfold Blk at h
 simp [World.frozen?, h]
theorem Blk.cast {w : World} {b : Nat} {t : TypeId} {cs cs' : List Value} (h : Blk w b t cs) (e : cs = cs') : Blk w b t cs' := e ▸ h
abbrev Gr (w w' : World) (r : Option Nat) : Prop := w.grownBy w' r
theorem Gr.refl (w : World) (r : Option Nat) : Gr w w r := ⟨rfl, rfl, rfl, Nat.le_refl _, fun _ _ _ => rfl⟩
theorem Gr.trans {a b c : World} {r : Option Nat} (h : Gr a b r) (k : Gr b c r) : Gr a c r :=
 ⟨k.os.trans h.os, k.tape.trans h.tape, k.output.trans h.output, Nat.le_trans h.size k.size, fun i hi hn => (k.block i (Nat.lt_of_lt_of_le hi h.size) hn).trans (h.block i hi hn)⟩
theorem Gr.no {a b : World} (h : Gr a b none) (r : Option Nat) : Gr a b r := ⟨h.os, h.tape, h.output, h.size, fun i hi _ => h.block i hi (by simp)⟩
theorem Gr.drew (w : World) (r : Option Nat) : Gr w { w with drawn := w.drawn + 1 } r := ⟨rfl, rfl, rfl, Nat.le_refl _, fun _ _ _ => rfl⟩
theorem Gr.fresh {a b c : World} {r : Option Nat} {q : Nat} (h : Gr a b r) (k : Gr b c (some q)) (hq : a.heap.size ≤ q) : Gr a c r :=
 ⟨k.os.trans h.os, k.tape.trans h.tape, k.output.trans h.output, Nat.le_trans h.size k.size, fun i hi hn => (k.block i (Nat.lt_of_lt_of_le hi h.size) (by simp; omega)).trans (h.block i hi hn)⟩
theorem Blk.gr {w w' : World} {b : Nat} {t : TypeId} {cs : List Value} {r : Option Nat} (h : Blk w b t cs) (hg : Gr w w' r) (hn : some b ≠ r) : Blk w' b t cs := (hg.block b h.lt hn).trans h
theorem Blk.grN {w w' : World} {b : Nat} {t : TypeId} {cs : List Value} (h : Blk w b t cs) (hg : Gr w w' none) : Blk w' b t cs := h.gr hg (by simp)
theorem Blk.set {w : World} {b : Nat} {t : TypeId} {cs : List Value} (h : Blk w b t cs) (k : Nat) (v : Value) : Blk (w.setCell ⟨b, k, none⟩ v) b t (cs.set k v) ∧ Gr w (w.setCell ⟨b, k, none⟩ v) (some b) := by
 refine ⟨?_, rfl, rfl, rfl, by simp [World.setCell], fun i hi hn => Below.heap_setCell _ _ _ _ (by simpa using hn)⟩
 have hl := h.lt
 unfold Blk at *
 simp only [World.setCell, Array.getElem?_modify, if_true, h, Option.map_some]
 simp
theorem Blk.new (w : World) (t : TypeId) (cs : List Value) : Blk (w.alloc (.cells cs.toArray t (0, 0))) w.heap.size t cs ∧ Gr w (w.alloc (.cells cs.toArray t (0, 0))) none := by
 refine ⟨?_, rfl, rfl, rfl, by simp, fun i hi _ => Below.heap_alloc _ _ _ hi⟩
 show (w.heap.push _)[w.heap.size]? = _
 simp
theorem Blk.setAll (b : Nat) (t : TypeId) : ∀ (vs cs : List Value) (k : Nat) (w : World), Blk w b t cs → k + vs.length ≤ cs.length → (∀ v ∈ vs, v.oneCell' = true) →
 ∃ w', (∀ P : Program, (storeCells (⟨b, 0, none⟩ : Addr) vs k).run P w = .ok () w') ∧ Blk w' b t (cs.take k ++ vs ++ cs.drop (k + vs.length)) ∧ Gr w w' (some b) ∧ w'.heap.size = w.heap.size
 | [], cs, k, w, h, hk, h1 => ⟨w, fun P => rfl, by simpa using h, Gr.refl _ _, rfl⟩
 | v :: vs, cs, k, w, h, hk, h1 => by
  simp only [List.length_cons] at hk
  have hs := h.set k v
  obtain ⟨w', hw', hb, hg, hz⟩ := Blk.setAll b t vs (cs.set k v) (k + 1) _ hs.1 (by simp; omega) (fun u hu => h1 u (by simp [hu]))
  refine ⟨w', fun P => ?_, ?_, hs.2.trans hg, by rw [hz]; simp [World.setCell]⟩
  ·obtain ⟨c, hc⟩ : ∃ c, cs[k]? = some c := ⟨cs[k]'(by omega), List.getElem?_eq_getElem _⟩
   have e0 : (⟨b, 0, none⟩ : Addr).add k = ⟨b, k, none⟩ := by
    unfold Addr.add; split
    ·subst_vars; rfl
    simp
   simp only [storeCells, Sem.run_bind, e0, run_store P w _ v _ (h1 v (by simp)), h.cell hc, h.frozen k]
   simp only [Bool.false_eq_true, if_false, Result.andThen_ok]
   exact hw' P
  have e : (cs.set k v).take (k + 1) = cs.take k ++ [v] := by
   rw [List.take_set]
   rw [List.take_succ_eq_append_getElem (by omega : k < cs.length)]
   rw [List.set_append_right _ _ (by simp; omega)]
   simp [Nat.min_eq_left (by omega : k ≤ cs.length)]
  have e2 : (cs.set k v).drop (k + 1 + vs.length) = cs.drop (k + (v :: vs).length) := by
   rw [List.drop_set]
   rw [if_pos (by omega)]
   congr 1; simp; omega
  rw [e, e2] at hb
  simpa using hb
namespace Eng
section
variable [Df]
variable {P : Program} {Q : Post} {ops : Array Oper} {rest : List Oper} {n : Nat} {l : Fr} {w w' : World} {v : Value} {dst : Option Nat} {d : Nat} {ty : TypeId} {pos : String} {af : Array Edge} {g : Option (Nat × Bool)} {x y z : Operand} {b k : Nat} {t u : TypeId} {cs : List Value}
def scalar (P : Program) (t : TypeId) : Bool :=
 match P.underlying t with
 | some (.struct _) | some (.array _ _) | none => false
 | _ => (P.info? t).any fun i => i.size == 1
theorem isAgg_scalar (h : scalar P t = true) (w : World) : (isAgg t).run P w = .ok false w := by
 unfold scalar at h
 cases hu : P.underlying t with
 | none => simp [hu] at h
 | some d =>
  simp only [isAgg, Sem.run_bind, run_underlying hu, Result.andThen_ok]
  cases d <;> simp_all
theorem sizeOf_scalar (h : scalar P t = true) (w : World) : (sizeOf t).run P w = .ok 1 w := by
 unfold scalar at h
 cases hi : P.info? t with
 | none => cases hu : P.underlying t with
  | none => simp [hu] at h
  | some d => simp only [hu, hi] at h; cases d <;> simp_all
 | some i =>
  have : i.size = 1 := by
   cases hu : P.underlying t with
   | none => simp [hu] at h
   | some d => simp only [hu, hi] at h; cases d <;> simp_all
  simp [sizeOf, typeInfo, hi, this]
theorem R.loadC (hs : scalar P t = true) {p : Addr} (hx : ev l x = some (.pointer (some p))) (hc : w.cell? p = some v) : Runs P n l ⟨dst, .load t x, ty, pos, af, g⟩ w (.value v) w := fun a ha => by
 simp only [execOp, ha.ev hx]
 simp [Instr.loadAt, Instr.sureAddr, loadVar, isAgg_scalar hs, hc]
theorem R.load (hs : scalar P t = true) (hx : ev l x = some (.pointer (some ⟨b, k, none⟩))) (hb : Blk w b u cs) (hv : cs[k]? = some v) : Runs P n l ⟨dst, .load t x, ty, pos, af, g⟩ w (.value v) w :=
 R.loadC hs hx (hb.cell hv)
theorem R.store (hs : scalar P t = true) (hx : ev l x = some (.pointer (some ⟨b, k, none⟩))) (hy : ev l y = some v) (h1 : v.oneCell' = true) {v0 : Value} (hb : Blk w b u cs) (hv : cs[k]? = some v0) : Runs P n l ⟨dst, .store t x y, ty, pos, af, g⟩ w .skip (w.setCell ⟨b, k, none⟩ v) := fun a ha => by
 have hcells : v.cells = #[v] := by cases v <;> first | rfl | (simp [Value.oneCell'] at h1)
 simp only [execOp, ha.ev hx, ha.ev hy]
 simp [Instr.storeAt, Instr.sureAddr, storeVar, sizeOf_scalar hs, hcells, storeCells, run_store P w _ v _ h1, hb.cell hv, hb.frozen k, Addr.add]
theorem W.store (hs : scalar P t = true) (hx : ev l x = some (.pointer (some ⟨b, k, none⟩))) (hy : ev l y = some v) (h1 : v.oneCell' = true) {v0 : Value} (hb : Blk w b u cs) (hv : cs[k]? = some v0)
 (h : ∀ w', Blk w' b u (cs.set k v) → Gr w w' (some b) → W P ops Q n rest l w') : W P ops Q n (⟨none, .store t x y, ty, pos, af, none⟩ :: rest) l w :=
 W.skip (R.store hs hx hy h1 hb hv) rfl rfl (h _ (hb.set k v).1 (hb.set k v).2)
def fieldOff (P : Program) (s : TypeId) (f : Nat) : Option Nat :=
 match P.underlying s with
 | some (.struct fs) => match fs[f]? with
  | some fd => match P.info? fd.type with
   | some i => if i.size = 0 then none else some fd.offset
   | none => none
  | none => none
 | _ => none
theorem addr_add (b k o : Nat) : (⟨b, k, none⟩ : Addr).add o = ⟨b, k + o, none⟩ := by
 unfold Addr.add; split
 ·subst_vars; rfl
 rfl
theorem R.fieldAddr {f o : Nat} (hf : fieldOff P t f = some o) (hx : ev l x = some (.pointer (some ⟨b, k, none⟩))) : Runs P n l ⟨dst, .fieldAddr t x f, ty, pos, af, g⟩ w (.value (.pointer (some ⟨b, k + o, none⟩))) w := fun a ha => by
 unfold fieldOff at hf
 split at hf
 ·rename_i fs hu
  split at hf
  ·rename_i fd hfd
   split at hf
   ·rename_i i hi
    split at hf
    ·cases hf
    rename_i hne
    simp only [Option.some.injEq] at hf
    subst hf
    simp only [execOp, ha.ev hx]
    simp [Instr.fieldAt, run_underlying hu, hfd, Instr.sureAddr, fieldPlace, sizeOf, typeInfo, hi, hne, addr_add]
   cases hf
  cases hf
 cases hf
theorem W.box {vs : List Value} (hx : ev l x = some v) (hv : v.cells = vs.toArray) (hdn : Nat.blt d n = true)
 (h : ∀ w' b, b = w.heap.size → Blk w' b t vs → Gr w w' none → W P ops Q n rest ((d, .pointer (some ⟨b, 0, none⟩)) :: l) w') : W P ops Q n (⟨some d, .box t x, ty, pos, af, none⟩ :: rest) l w := by
 refine W.q (v := .pointer (some ⟨w.heap.size, 0, none⟩)) (w' := w.alloc (.cells vs.toArray t (0, 0))) ?_ rfl rfl hdn (h _ _ rfl (Blk.new w t vs).1 (Blk.new w t vs).2)
 intro a ha
 simp only [execOp, ha.ev hx]
 simp [Instr.box, newVar, newRow, hv]
def zeroCellsOf (P : Program) (t : TypeId) : Option (List Value) := (P.info? t).bind fun i => i.zero.map fun z => z.cells.toList
theorem W.alloc {vs : List Value} (hz : zeroCellsOf P t = some vs) (hdn : Nat.blt d n = true)
 (h : ∀ w' b, b = w.heap.size → Blk w' b t vs → Gr w w' none → W P ops Q n rest ((d, .pointer (some ⟨b, 0, none⟩)) :: l) w') : W P ops Q n (⟨some d, .alloc t, ty, pos, af, none⟩ :: rest) l w := by
 refine W.q (v := .pointer (some ⟨w.heap.size, 0, none⟩)) (w' := w.alloc (.cells vs.toArray t (0, 0))) ?_ rfl rfl hdn (h _ _ rfl (Blk.new w t vs).1 (Blk.new w t vs).2)
 intro a ha
 unfold zeroCellsOf at hz
 cases hi : P.info? t with
 | none => simp [hi] at hz
 | some i =>
  cases hzz : i.zero with
  | none => simp [hi, hzz] at hz
  | some zv =>
   simp [hi, hzz] at hz
   subst hz
   simp [execOp, Instr.alloc, zeroValue, typeInfo, hi, hzz, newVar, newRow]
end
end Eng
abbrev byteV (c : UInt8) : Value := .int .u8 ((c.toNat : Nat) : Int)
def BB (w : World) (b : Nat) (s : List UInt8) : Prop := ∃ rest fr, w.heap[b]? = some (.cells (s.map byteV ++ rest).toArray 5 fr) ∧ ∀ k, k < s.length → ¬ (fr.1 ≤ k ∧ k < fr.2)
theorem BB.lt {w : World} {b : Nat} {s : List UInt8} (h : BB w b s) : b < w.heap.size := by
 obtain ⟨rest, fr, h, -⟩ := h
 rcases Nat.lt_or_ge b w.heap.size with h1 | h1
 ·exact h1
 rw [Array.getElem?_eq_none h1] at h; cases h
theorem BB.gr {w w' : World} {b : Nat} {s : List UInt8} {r : Option Nat} (h : BB w b s) (hg : Gr w w' r) (hn : some b ≠ r) : BB w' b s := by
 have hl := h.lt
 obtain ⟨rest, fr, h, hf⟩ := h
 exact ⟨rest, fr, (hg.block b hl hn).trans h, hf⟩
theorem BB.grN {w w' : World} {b : Nat} {s : List UInt8} (h : BB w b s) (hg : Gr w w' none) : BB w' b s := h.gr hg (by simp)
theorem BB.cell {w : World} {b : Nat} {s : List UInt8} (h : BB w b s) {k : Nat} (hk : k < s.length) : w.cell? ⟨b, k, none⟩ = some (.int .u8 (byteAt s k : Int)) := by
 obtain ⟨rest, fr, h, -⟩ := h
 have e : (s.map byteV ++ rest)[k]? = some (.int .u8 (byteAt s k : Int)) := by
  rw [List.getElem?_append_left (by simpa using hk)]
  simp [byteAt, hk]
 simp [World.cell?, h, e]
theorem BB.set {w : World} {b : Nat} {s : List UInt8} (h : BB w b s) (k : Nat) (c : UInt8) : BB (w.setCell ⟨b, k, none⟩ (byteV c)) b (s.set k c) ∨ ¬ k < s.length := by
 rcases Nat.lt_or_ge k s.length with hk | hk
 ·left
  have hl := h.lt
  obtain ⟨rest, fr, h, hf⟩ := h
  refine ⟨rest, fr, ?_, by simpa using hf⟩
  have e : (List.map byteV s).set k (byteV c) = List.map byteV (s.set k c) := by
   apply List.ext_getElem?
   intro i
   simp [List.getElem?_set]
  simp only [World.setCell, Array.getElem?_modify, if_true, h, Option.map_some]
  rw [← e]
  simp [List.set_append, hk]
 right; omega
namespace Eng
section
variable [Df]
variable {P : Program} {Q : Post} {ops : Array Oper} {rest : List Oper} {n : Nat} {l : Fr} {w w' : World} {v : Value} {dst : Option Nat} {d : Nat} {ty : TypeId} {pos : String} {af : Array Edge} {g : Option (Nat × Bool)} {x y z : Operand} {b k : Nat} {t u : TypeId} {cs : List Value}
theorem size_str (s : List UInt8) : (⟨s.toArray⟩ : ByteArray).size = s.length := by simp [ByteArray.size]
theorem W.toBytes {s : List UInt8} {src dt e : TypeId} (hx : ev l x = some (str s)) (hs : P.underlying src = some .string) (hd : P.underlying dt = some (.slice e)) (he : P.underlying e = some (.int .u8)) (he5 : e = 5) (hdn : Nat.blt d n = true)
 (h : ∀ w' b cap, b = w.heap.size → BB w' b s → Gr w w' none → W P ops Q n rest ((d, .slice (some ⟨b, 0, none⟩) s.length cap) :: l) w') : W P ops Q n (⟨some d, .convert src dt x, ty, pos, af, none⟩ :: rest) l w := by
 subst he5
 refine W.q (v := .slice (some ⟨w.heap.size, 0, none⟩) s.length (grownCap w s.length 0 5)) (w' := w.drew.alloc (.cells (bytesRow ⟨s.toArray⟩ (grownCap w s.length 0 5)) 5 ((bytesRow ⟨s.toArray⟩ (grownCap w s.length 0 5)).size, (bytesRow ⟨s.toArray⟩ (grownCap w s.length 0 5)).size + 1))) ?_ rfl rfl hdn (h _ _ _ rfl ?_ ?_)
 ·intro a ha
  simp only [execOp, ha.ev hx]
  have := run_bytes_of_string (P := P) w src dt 5 ⟨s.toArray⟩ hs hd he
  rw [size_str] at this
  simp [this]
 ·refine ⟨List.replicate (grownCap w s.length 0 5 - s.length) (.int .u8 0), ((bytesRow ⟨s.toArray⟩ (grownCap w s.length 0 5)).size, (bytesRow ⟨s.toArray⟩ (grownCap w s.length 0 5)).size + 1), ?_, ?_⟩
  ·show (w.heap.push _)[w.heap.size]? = _
   simp [bytesRow, size_str]
  intro k hk
  simp [bytesRow]
  omega
 refine ⟨rfl, rfl, rfl, ?_, fun i hi _ => ?_⟩
 ·simp
 exact Below.heap_alloc w.drew _ _ hi
theorem W.storeB {s : List UInt8} {m : Nat} (hx : ev l x = some (.pointer (some ⟨b, k, none⟩))) (hy : ev l y = some (.int .u8 (m : Int))) (hm : m < 256) (hs : scalar P t = true) (hb : BB w b s) (hk : k < s.length)
 (h : ∀ w', BB w' b (s.set k (UInt8.ofNat m)) → Gr w w' (some b) → W P ops Q n rest l w') : W P ops Q n (⟨none, .store t x y, ty, pos, af, none⟩ :: rest) l w := by
 have e : byteV (UInt8.ofNat m) = .int .u8 (m : Int) := by
  simp only [byteV, UInt8.toNat_ofNat', Value.int.injEq, true_and]
  have : m % 2 ^ 8 = m := Nat.mod_eq_of_lt (by omega)
  rw [this]
 have hset := (hb.set k (UInt8.ofNat m)).resolve_right (by omega)
 rw [e] at hset
 have hfz : w.frozen? ⟨b, k, none⟩ = false := by
  obtain ⟨rs, fr, h1, h2⟩ := hb
  have := h2 k hk
  simp only [World.frozen?, h1]
  rcases fr with ⟨lo, hi⟩
  simp only at this ⊢
  simp; omega
 refine W.skip (w' := w.setCell ⟨b, k, none⟩ (.int .u8 (m : Int))) ?_ rfl rfl (h _ hset ⟨rfl, rfl, rfl, by simp [World.setCell], fun i hi hn => Below.heap_setCell _ _ _ _ (by simpa using hn)⟩)
 intro a ha
 simp only [execOp, ha.ev hx, ha.ev hy]
 simp [Instr.storeAt, Instr.sureAddr, storeVar, sizeOf_scalar hs, Value.cells, storeCells, run_store P w _ _ _ (rfl : Value.oneCell' (.int .u8 (m : Int)) = true), hb.cell hk, hfz, Addr.add]
theorem R.loadB {s : List UInt8} (hs : scalar P t = true) (hx : ev l x = some (.pointer (some ⟨b, k, none⟩))) (hb : BB w b s) (hk : k < s.length) : Runs P n l ⟨dst, .load t x, ty, pos, af, g⟩ w (.value (.int .u8 (byteAt s k : Int))) w :=
 R.loadC hs hx (hb.cell hk)
theorem loadCells_bytes {s : List UInt8} (hb : BB w b s) : ∀ (m k : Nat) (acc : Array Value), k + m ≤ s.length → (loadCellsFrom ⟨b, 0, none⟩ k m acc).run P w = .ok (acc ++ (((s.drop k).take m).map byteV).toArray) w
 | 0, k, acc, _ => by simp [loadCellsFrom]
 | m + 1, k, acc, h => by
  have hk : k < s.length := by omega
  have e : (s.drop k).take (m + 1) = s[k] :: (s.drop (k + 1)).take m := by
   rw [List.drop_eq_getElem_cons hk]; rfl
  have e0 : (⟨b, 0, none⟩ : Addr).add k = ⟨b, k, none⟩ := by rw [addr_add]; simp
  simp only [loadCellsFrom, Sem.run_bind, e0, run_load, hb.cell hk, Result.andThen_ok]
  rw [loadCells_bytes hb m (k + 1) _ (by omega), e]
  simp [byteAt, hk]
theorem R.ofBytes {s : List UInt8} {src dt e : TypeId} {len cap : Nat} (hx : ev l x = some (.slice (some ⟨b, 0, none⟩) len cap)) (hs : P.underlying src = some (.slice e)) (he : P.underlying e = some (.int .u8)) (hd : P.underlying dt = some .string) (hb : BB w b s) (hlen : len = s.length) : Runs P n l ⟨dst, .convert src dt x, ty, pos, af, g⟩ w (.value (str s)) w := fun a ha => by
 subst hlen
 have hl : (loadCells ⟨b, 0, none⟩ s.length).run P w = .ok ((s.map fun c => ((c.toNat : Nat) : Int)).map (Value.int .u8)).toArray w := by
  have := loadCells_bytes (P := P) hb s.length 0 #[] (by omega)
  simp only [List.drop_zero, List.take_length] at this
  simp only [loadCells, List.map_map]
  rw [this]
  simp
 have e2 : ∀ (q : List UInt8) (r : ByteArray), ((q.map fun c => ((c.toNat : Nat) : Int)).foldl (fun r n => r.push (UInt8.ofNat n.toNat)) r) = ⟨r.data ++ q.toArray⟩ := by
  intro q
  induction q with
  | nil => intro r; simp
  | cons c q ih =>
   intro r
   simp only [List.map_cons, List.foldl_cons]
   rw [ih]
   simp [ByteArray.push]
 have hrun := run_bytesToString (P := P) w ⟨b, 0, none⟩ s.length cap _ hl
 rw [e2] at hrun
 simp only [execOp, ha.ev hx]
 have e3 : (⟨ByteArray.empty.data ++ s.toArray⟩ : ByteArray) = ⟨s.toArray⟩ := by simp [ByteArray.empty, ByteArray.emptyWithCapacity]; rfl
 rw [e3] at hrun
 simp only [convert, Sem.run_bind, run_underlying hs, run_underlying hd, run_underlying he, Result.andThen_ok, hrun]
 simp [hrun]
def slElem (P : Program) (t : TypeId) : Option Nat :=
 match P.underlying t with
 | some (.slice e) => (P.info? e).map (·.size)
 | _ => none
theorem R.idxA {off len cap sz : Nat} {kd : IntKind} {i : Int} (hx : ev l x = some (.slice (some ⟨b, off, none⟩) len cap)) (hy : ev l y = some (.int kd i)) (m : Nat) (hm : i = (m : Int)) (hlt : m < len) (hs : slElem P t = some sz) :
 Runs P n l ⟨dst, .indexAddr t x y, ty, pos, af, g⟩ w (.value (.pointer (some ⟨b, off + m * sz, none⟩))) w := fun a ha => by
 subst hm
 unfold slElem at hs
 cases hu : P.underlying t with
 | none => simp [hu] at hs
 | some dd =>
  cases dd <;> simp only [hu] at hs <;> try (cases hs; done)
  rename_i e
  cases hi : P.info? e with
  | none => simp [hi] at hs
  | some ie =>
   simp only [hi, Option.map_some, Option.some.injEq] at hs
   simp only [execOp, ha.ev hx, ha.ev hy]
   simp [Instr.indexAt, asIntOf, run_underlying hu, hlt, sizeOf, typeInfo, hi, hs, addr_add]
theorem R.idxB {len cap : Nat} {kd : IntKind} {i : Int} (hx : ev l x = some (.slice (some ⟨b, 0, none⟩) len cap)) (hy : ev l y = some (.int kd i)) (m : Nat) (hm : i = (m : Int)) (hlt : m < len) (hs : slElem P t = some 1) :
 Runs P n l ⟨dst, .indexAddr t x y, ty, pos, af, g⟩ w (.value (.pointer (some ⟨b, m, none⟩))) w := by
 have := R.idxA (P := P) (n := n) (dst := dst) (ty := ty) (pos := pos) (af := af) (g := g) (w := w) hx hy m hm hlt hs
 simpa using this
theorem R.lenL {p : Option Addr} {len cap : Nat} (hx : ev l x = some (.slice p len cap)) (hu : (slElem P t).isSome = true) : Runs P n l ⟨dst, .call ⟨.builtin .len, #[x], #[t]⟩, ty, pos, af, g⟩ w (.value (.int .i64 (len : Int))) w := fun a ha => by
 unfold slElem at hu
 cases hq : P.underlying t with
 | none => simp [hq] at hu
 | some dd =>
  cases dd <;> simp only [hq] at hu <;> try (cases hu; done)
  simp [execOp, resolve, invoke, builtin, Builtin.len_, ha.ev hx, run_underlying hq, goInt]
def aggSize (P : Program) (t : TypeId) : Option Nat :=
 match P.underlying t with
 | some (.struct _) | some (.array _ _) => (P.info? t).map (·.size)
 | _ => none
theorem aggSize_agg (h : aggSize P t = some k) (w : World) : (isAgg t).run P w = .ok true w ∧ (sizeOf t).run P w = .ok k w := by
 unfold aggSize at h
 cases hu : P.underlying t with
 | none => simp [hu] at h
 | some dd =>
  cases hi : P.info? t with
  | none => cases dd <;> simp_all
  | some i =>
   have hk : i.size = k := by cases dd <;> simp_all
   refine ⟨?_, by simp [sizeOf, typeInfo, hi, hk]⟩
   simp only [isAgg, Sem.run_bind, run_underlying hu, Result.andThen_ok]
   cases dd <;> simp_all
theorem loadCells_blk {c : Array Value} {e : TypeId} {fr : Nat × Nat} (hb : w.heap[b]? = some (.cells c e fr)) (off : Nat) : ∀ (m k : Nat) (acc : Array Value), off + k + m ≤ c.size → (loadCellsFrom ⟨b, off, none⟩ k m acc).run P w = .ok (acc ++ ((c.toList.drop (off + k)).take m).toArray) w
 | 0, k, acc, _ => by simp [loadCellsFrom]
 | m + 1, k, acc, h => by
  have hk : off + k < c.toList.length := by simpa using (by omega : off + k < c.size)
  have e1 : (c.toList.drop (off + k)).take (m + 1) = c.toList[off + k] :: (c.toList.drop (off + (k + 1))).take m := by
   rw [List.drop_eq_getElem_cons hk]; rfl
  have hc : w.cell? ⟨b, off + k, none⟩ = some (c.toList[off + k]) := by
   have h3 : off + k < c.size := by simpa using hk
   simp [World.cell?, hb, h3]
  simp only [loadCellsFrom, Sem.run_bind, addr_add, run_load, hc, Result.andThen_ok]
  rw [loadCells_blk hb off m (k + 1) _ (by omega), e1]
  simp
theorem R.loadAgg {c : Array Value} {e : TypeId} {fr : Nat × Nat} {off : Nat} {vs : List Value} (hz : aggSize P t = some k) (hx : ev l x = some (.pointer (some ⟨b, off, none⟩))) (hb : w.heap[b]? = some (.cells c e fr)) (hle : off + k ≤ c.size) (hvs : (c.toList.drop off).take k = vs) :
 Runs P n l ⟨dst, .load t x, ty, pos, af, g⟩ w (.value (.agg vs.toArray)) w := fun a ha => by
 have h1 := hz
 obtain ⟨ha1, ha2⟩ := aggSize_agg hz w
 have := loadCells_blk (P := P) hb off k 0 #[] (by omega)
 subst hvs
 simp only [execOp, ha.ev hx]
 simp [Instr.loadAt, Instr.sureAddr, loadVar, ha1, ha2, loadCells, this]
theorem W.storeAll {vs : List Value} (hz : aggSize P t = some k) (hx : ev l x = some (.pointer (some ⟨b, 0, none⟩))) (hy : ev l y = some (.agg vs.toArray)) (hb : Blk w b u cs) (hk : vs.length = k) (hc : cs.length = k) (h1 : ∀ v ∈ vs, v.oneCell' = true)
 (h : ∀ w', Blk w' b u vs → Gr w w' (some b) → W P ops Q n rest l w') : W P ops Q n (⟨none, .store t x y, ty, pos, af, none⟩ :: rest) l w := by
 obtain ⟨w', hw', hb', hg, -⟩ := Blk.setAll b u vs cs 0 w hb (by omega) h1
 obtain ⟨-, ha2⟩ := aggSize_agg hz w
 refine W.skip (w' := w') ?_ rfl rfl (h _ (by simpa [hk, ← hc] using hb') hg)
 intro a ha
 simp only [execOp, ha.ev hx, ha.ev hy]
 simp [Instr.storeAt, Instr.sureAddr, storeVar, ha2, Value.cells, hk, hw' P]
theorem R.build {parts : Array (Nat × Operand)} {vs : List Value} {ps : List (Nat × Value)} (hp : ∀ a, On n l a → (parts.map fun (i, x) => (i, a.eval x)) = ps.toArray) (hb : P.built t ps = some vs.toArray) : Runs P n l ⟨dst, .build t parts, ty, pos, af, g⟩ w (.value (.agg vs.toArray)) w := fun a ha => by
 simp only [execOp, hp a ha]
 simp [run_build (P := P) w t ps.toArray vs.toArray (by simpa using hb)]
end
end Eng
end Go.Proofs.YtogfnbkccfkpoaaGreatDoor
namespace Go.Proofs.YtogfnbkccfkpoaaGreatDoor
open Go Go.RowKit
namespace Eng
section
variable [Df]
variable {P : Program} {Q : Post} {ops : Array Oper} {rest : List Oper} {n : Nat} {l : Fr} {w w' : World} {v : Value} {dst : Option Nat} {d : Nat} {ty : TypeId} {pos : String} {af : Array Edge} {g : Option (Nat × Bool)} {x y z : Operand} {b k : Nat} {t u : TypeId} {cs : List Value}
def rowOf (P : Program) (t : TypeId) (m : Nat) (ps : List (Nat × Value)) : Option (TypeId × List Value) :=
 match P.underlying t with
 | some (.slice e) => match P.info? e with
  | some i => match i.zero with
   | some z => if m * i.size ≤ 16777216 then (Instr.fill (fun q => some (q * i.size, i.size)) ((Array.range (m * i.size)).map (z.cells[· % z.cells.size]!)) ps).map fun c => (e, c.toList) else none
   | none => none
  | none => none
 | _ => none
theorem W.buildSlice {m : Nat} {e : TypeId} {parts : Array (Nat × Operand)} {ps : List (Nat × Value)} (hp : ∀ a, On n l a → (parts.map fun (i, x) => (i, a.eval x)) = ps.toArray) (hb : rowOf P t m ps = some (e, cs)) (hdn : Nat.blt d n = true)
 (h : ∀ w' b, b = w.heap.size → Blk w' b e cs → Gr w w' none → W P ops Q n rest ((d, .slice (some ⟨b, 0, none⟩) m m) :: l) w') : W P ops Q n (⟨some d, .buildSlice t m parts, ty, pos, af, none⟩ :: rest) l w := by
 refine W.q (v := .slice (some ⟨w.heap.size, 0, none⟩) m m) (w' := w.alloc (.cells cs.toArray e (0, 0))) ?_ rfl rfl hdn (h _ _ rfl (Blk.new w e cs).1 (Blk.new w e cs).2)
 intro a ha
 unfold rowOf at hb
 cases hu : P.underlying t with
 | none => simp [hu] at hb
 | some dd =>
  cases dd <;> simp only [hu] at hb <;> try (cases hb; done)
  rename_i e'
  cases hi : P.info? e' with
  | none => simp [hi] at hb
  | some i =>
   cases hz : i.zero with
   | none => simp [hi, hz] at hb
   | some zv =>
    simp only [hi, hz] at hb
    split at hb
    ·rename_i hle
     cases hf : Instr.fill (fun q => some (q * i.size, i.size)) ((Array.range (m * i.size)).map (zv.cells[· % zv.cells.size]!)) ps with
     | none => simp [hf] at hb
     | some c =>
      simp only [hf, Option.map_some, Option.some.injEq, Prod.mk.injEq] at hb
      obtain ⟨rfl, rfl⟩ := hb
      simp only [execOp, hp a ha]
      have h24 : ¬ (m * i.size > 2 ^ 24) := by omega
      by_cases h0 : m * i.size = 0
      ·have : Instr.fill (fun q => some (q * i.size, i.size)) ((Array.range (m * i.size)).map ((#[] : Array Value)[· % (#[] : Array Value).size]!)) ps = some c := by
        rw [h0] at hf ⊢
        have e0 : ∀ f : Nat → Value, (Array.range 0).map f = #[] := fun f => by simp
        rw [e0] at hf ⊢
        exact hf
       simp [Instr.buildSlice, run_underlying hu, sizeOf, typeInfo, hi, h24, h0, newRow] at this ⊢
       simp [this]
      simp [Instr.buildSlice, run_underlying hu, sizeOf, typeInfo, hi, h24, h0, zeroValue, hz, hf, newRow]
    cases hb
def elInfo (P : Program) (t : TypeId) : Option (TypeId × Nat × Nat) :=
 match P.underlying t with
 | some (.slice e) => match P.info? e with
  | some i => match i.zero with
   | some z => if z.cells.size = i.size ∧ 0 < i.size then some (e, i.size, i.bytes) else none
   | none => none
  | none => none
 | _ => none
theorem elInfo.spec {e : TypeId} {sz by' : Nat} (h : elInfo P t = some (e, sz, by')) : P.underlying t = some (.slice e) ∧ ∃ i z, P.info? e = some i ∧ i.zero = some z ∧ i.size = sz ∧ i.bytes = by' ∧ z.cells.size = sz ∧ 0 < sz := by
 unfold elInfo at h
 split at h
 ·rename_i e' hu
  split at h
  ·rename_i i hi
   split at h
   ·rename_i z hz
    split at h
    ·rename_i hc
     simp only [Option.some.injEq, Prod.mk.injEq] at h
     obtain ⟨rfl, rfl, rfl⟩ := h
     exact ⟨hu, i, z, hi, hz, rfl, rfl, hc.1, hc.2⟩
    cases h
   cases h
  cases h
 cases h
theorem W.append {e : TypeId} {sz by' : Nat} (hE : elInfo P t = some (e, sz, by')) {base m0 : Nat} {xs : List Value} (hs : ev l x = some v) (hown : w.ownsRow base e sz v m0 xs)
 {ad : Addr} {m c : Nat} {news : List Value} (hx : ev l y = some (.slice (some ad) m c)) (hl : news.length = m * sz) (hnews : ∀ j u, news[j]? = some u → w.cell? (ad.add j) = some u) (h1 : ∀ u ∈ news, u.oneCell' = true)
 (h63 : m0 + m ≤ maxLen) (hbytes : (m0 + m) * by' ≤ 140737488355328) (hbase : base ≤ w.heap.size) (hdn : Nat.blt d n = true)
 (h : ∀ v' w', w'.ownsRow base e sz v' (m0 + m) (xs ++ news) → Gr w w' v.ownBlock → W P ops Q n rest ((d, v') :: l) w') : W P ops Q n (⟨some d, .call ⟨.builtin .append, #[x, y], #[t, t]⟩, ty, pos, af, none⟩ :: rest) l w := by
 obtain ⟨hu, i, z, hi, hz, hs1, hb1, hz1, hp⟩ := elInfo.spec hE
 intro a ha
 refine wpList_append_own (w := w) rfl x y t rfl base e i z sz by' hu hi hz hs1 hb1 hz1 hp v m0 xs (ha.ev hs) hown ad m c news (ha.ev hx) hl hnews h1 h63 hbytes hbase fun v' w' h2 h3 _ => ?_
 exact h v' w' h2 h3 _ (ha.put hdn v')
theorem W.appendNil {e : TypeId} {sz by' : Nat} (hE : elInfo P t = some (e, sz, by')) {base m0 : Nat} {xs : List Value} (hs : ev l x = some v) (hown : w.ownsRow base e sz v m0 xs)
 (hx : ev l y = some (.slice none 0 0)) (hdn : Nat.blt d n = true)
 (h : W P ops Q n rest ((d, v) :: l) w) : W P ops Q n (⟨some d, .call ⟨.builtin .append, #[x, y], #[t, t]⟩, ty, pos, af, none⟩ :: rest) l w := by
 obtain ⟨hu, i, z, hi, hz, hs1, hb1, hz1, hp⟩ := elInfo.spec hE
 intro a ha
 refine wpList_append_own_none rfl x y t rfl base e i sz hu hi v m0 xs (ha.ev hs) hown (ha.ev hx) ?_
 exact h _ (ha.put hdn v)
end
theorem fo32_1 : fieldOff PR 32 1 = some 1 := by kernel_rfl
theorem fo32_2 : fieldOff PR 32 2 = some 4 := by kernel_rfl
theorem fo38_0 : fieldOff PR 38 0 = some 0 := by kernel_rfl
theorem fo38_1 : fieldOff PR 38 1 = some 1 := by kernel_rfl
theorem fo38_2 : fieldOff PR 38 2 = some 2 := by kernel_rfl
theorem fo38_3 : fieldOff PR 38 3 = some 3 := by kernel_rfl
theorem fo38_4 : fieldOff PR 38 4 = some 4 := by kernel_rfl
theorem fo53_0 : fieldOff PR 53 0 = some 0 := by kernel_rfl
theorem fo53_1 : fieldOff PR 53 1 = some 1 := by kernel_rfl
theorem fo53_3 : fieldOff PR 53 3 = some 3 := by kernel_rfl
theorem fo53_4 : fieldOff PR 53 4 = some 4 := by kernel_rfl
theorem fo53_5 : fieldOff PR 53 5 = some 5 := by kernel_rfl
theorem fo53_6 : fieldOff PR 53 6 = some 6 := by kernel_rfl
theorem fo53_7 : fieldOff PR 53 7 = some 7 := by kernel_rfl
theorem fo63_0 : fieldOff PR 63 0 = some 0 := by kernel_rfl
theorem fo63_1 : fieldOff PR 63 1 = some 1 := by kernel_rfl
theorem fo63_2 : fieldOff PR 63 2 = some 2 := by kernel_rfl
theorem fo63_3 : fieldOff PR 63 3 = some 3 := by kernel_rfl
theorem fo81_0 : fieldOff PR 81 0 = some 0 := by kernel_rfl
theorem fo81_1 : fieldOff PR 81 1 = some 1 := by kernel_rfl
theorem fo81_2 : fieldOff PR 81 2 = some 2 := by kernel_rfl
theorem fo87_0 : fieldOff PR 87 0 = some 0 := by kernel_rfl
theorem fo91_0 : fieldOff PR 91 0 = some 0 := by kernel_rfl
theorem fo95_0 : fieldOff PR 95 0 = some 0 := by kernel_rfl
theorem fo99_0 : fieldOff PR 99 0 = some 0 := by kernel_rfl
theorem fo99_1 : fieldOff PR 99 1 = some 1 := by kernel_rfl
theorem fo99_2 : fieldOff PR 99 2 = some 2 := by kernel_rfl
theorem fo99_3 : fieldOff PR 99 3 = some 3 := by kernel_rfl
theorem fo105_0 : fieldOff PR 105 0 = some 0 := by kernel_rfl
theorem fo105_1 : fieldOff PR 105 1 = some 1 := by kernel_rfl
theorem fo114_0 : fieldOff PR 114 0 = some 0 := by kernel_rfl
theorem fo114_1 : fieldOff PR 114 1 = some 1 := by kernel_rfl
theorem fo118_1 : fieldOff PR 118 1 = some 0 := by kernel_rfl
theorem fo118_2 : fieldOff PR 118 2 = some 1 := by kernel_rfl
theorem fo122_1 : fieldOff PR 122 1 = some 0 := by kernel_rfl
theorem fo122_2 : fieldOff PR 122 2 = some 1 := by kernel_rfl
theorem fo122_3 : fieldOff PR 122 3 = some 2 := by kernel_rfl
theorem fo122_4 : fieldOff PR 122 4 = some 3 := by kernel_rfl
theorem fo124_1 : fieldOff PR 124 1 = some 0 := by kernel_rfl
theorem fo131_1 : fieldOff PR 131 1 = some 0 := by kernel_rfl
theorem sc3 : scalar PR 3 = true := by kernel_rfl
theorem sc4 : scalar PR 4 = true := by kernel_rfl
theorem sc5 : scalar PR 5 = true := by kernel_rfl
theorem sc9 : scalar PR 9 = true := by kernel_rfl
theorem sc22 : scalar PR 22 = true := by kernel_rfl
theorem sc41 : scalar PR 41 = true := by kernel_rfl
theorem sc42 : scalar PR 42 = true := by kernel_rfl
theorem sc44 : scalar PR 44 = true := by kernel_rfl
theorem sc48 : scalar PR 48 = true := by kernel_rfl
theorem sc61 : scalar PR 61 = true := by kernel_rfl
theorem u9 : PR.underlying 9 = some .string := Tryz.underlying9
theorem u3 : PR.underlying 3 = some (.int .i64) := Tryz.underlying3
theorem u83 : PR.underlying 83 = some (.slice 5) := Tryz.underlying83
theorem u5 : PR.underlying 5 = some (.int .u8) := Tryz.underlying5
theorem sl83 : slElem PR 83 = some 1 := by kernel_rfl
theorem slq83 : (slElem PR 83).isSome = true := by kernel_rfl
theorem sl22 : slElem PR 22 = some 8 := by kernel_rfl
theorem slq22 : (slElem PR 22).isSome = true := by kernel_rfl
theorem sl54 : slElem PR 54 = some 1 := by kernel_rfl
theorem slq54 : (slElem PR 54).isSome = true := by kernel_rfl
theorem sl28 : slElem PR 28 = some 1 := by kernel_rfl
theorem slq28 : (slElem PR 28).isSome = true := by kernel_rfl
theorem sl106 : slElem PR 106 = some 1 := by kernel_rfl
theorem slq106 : (slElem PR 106).isSome = true := by kernel_rfl
theorem sl41 : slElem PR 41 = some 1 := by kernel_rfl
theorem slq41 : (slElem PR 41).isSome = true := by kernel_rfl
theorem sl42 : slElem PR 42 = some 1 := by kernel_rfl
theorem slq42 : (slElem PR 42).isSome = true := by kernel_rfl
theorem sl25 : slElem PR 25 = some 5 := by kernel_rfl
theorem slq25 : (slElem PR 25).isSome = true := by kernel_rfl
theorem el83 : elInfo PR 83 = some (5, 1, 1) := by kernel_rfl
theorem el22 : elInfo PR 22 = some (53, 8, 80) := by kernel_rfl
theorem el54 : elInfo PR 54 = some (3, 1, 8) := by kernel_rfl
theorem el28 : elInfo PR 28 = some (22, 1, 24) := by kernel_rfl
theorem el41 : elInfo PR 41 = some (48, 1, 16) := by kernel_rfl
theorem el42 : elInfo PR 42 = some (48, 1, 16) := by kernel_rfl
theorem el25 : elInfo PR 25 = some (32, 5, 56) := by kernel_rfl
theorem mixed : PR.follows .mixedOrders = true := by kernel_rfl
def enters (P : Program) (f : FuncId) : Bool :=
 match P.funcs[f]? with
 | some fn => !(fn.name == "runtime.NumGoroutine") && fn.body.isSome
 | none => false
theorem enters.run {P : Program} {f : FuncId} (h : enters P f = true) (vs : Array Value) (w : World) : (callFunc f vs).run P w = .ok (.enter f vs) w := by
 unfold enters at h
 cases hf : P.funcs[f]? with
 | none => simp [hf] at h
 | some fn =>
  simp only [hf, Bool.and_eq_true, Bool.not_eq_true'] at h
  have hb : fn.body.isNone = false := by cases hq : fn.body <;> simp_all
  simp only [callFunc, Sem.run_bind, run_program, Result.andThen_ok, hf, h.1, hb, Bool.false_eq_true, if_false]
  rfl
theorem R.call {P : Program} {n : Nat} {l : Fr} {w : World} {dst : Option Nat} {ty : TypeId} {pos : String} {af : Array Edge} {g : Option (Nat × Bool)} {f : FuncId} {args : List Operand} {vs : List Value} {tys : Array TypeId}
 (h : enters P f = true) (ha : evL l args = some vs) : Runs P n l ⟨dst, .call ⟨.value (.func f), args.toArray, tys⟩, ty, pos, af, g⟩ w (.enter f vs.toArray) w := fun a hon => by
 have := hon.evL ha
 simp [execOp, resolve, Deferred.ofValue, invoke, Act.eval, this, enters.run h]
theorem en4 : enters PR 4 = true := by kernel_rfl
theorem en5 : enters PR 5 = true := by kernel_rfl
theorem en6 : enters PR 6 = true := by kernel_rfl
theorem en7 : enters PR 7 = true := by kernel_rfl
theorem en8 : enters PR 8 = true := by kernel_rfl
theorem en9 : enters PR 9 = true := by kernel_rfl
theorem en10 : enters PR 10 = true := by kernel_rfl
theorem en12 : enters PR 12 = true := by kernel_rfl
theorem en13 : enters PR 13 = true := by kernel_rfl
theorem en14 : enters PR 14 = true := by kernel_rfl
theorem en15 : enters PR 15 = true := by kernel_rfl
theorem en16 : enters PR 16 = true := by kernel_rfl
theorem en17 : enters PR 17 = true := by kernel_rfl
theorem en18 : enters PR 18 = true := by kernel_rfl
theorem en19 : enters PR 19 = true := by kernel_rfl
theorem en20 : enters PR 20 = true := by kernel_rfl
theorem en21 : enters PR 21 = true := by kernel_rfl
theorem en22 : enters PR 22 = true := by kernel_rfl
theorem en23 : enters PR 23 = true := by kernel_rfl
theorem en24 : enters PR 24 = true := by kernel_rfl
theorem en25 : enters PR 25 = true := by kernel_rfl
theorem en26 : enters PR 26 = true := by kernel_rfl
theorem en27 : enters PR 27 = true := by kernel_rfl
theorem en28 : enters PR 28 = true := by kernel_rfl
theorem en29 : enters PR 29 = true := by kernel_rfl
theorem en31 : enters PR 31 = true := by kernel_rfl
theorem en32 : enters PR 32 = true := by kernel_rfl
theorem en33 : enters PR 33 = true := by kernel_rfl
theorem en34 : enters PR 34 = true := by kernel_rfl
theorem en35 : enters PR 35 = true := by kernel_rfl
theorem en36 : enters PR 36 = true := by kernel_rfl
theorem en37 : enters PR 37 = true := by kernel_rfl
theorem en38 : enters PR 38 = true := by kernel_rfl
theorem en39 : enters PR 39 = true := by kernel_rfl
theorem en40 : enters PR 40 = true := by kernel_rfl
theorem en41 : enters PR 41 = true := by kernel_rfl
theorem en42 : enters PR 42 = true := by kernel_rfl
theorem en43 : enters PR 43 = true := by kernel_rfl
theorem en44 : enters PR 44 = true := by kernel_rfl
theorem en45 : enters PR 45 = true := by kernel_rfl
theorem en46 : enters PR 46 = true := by kernel_rfl
theorem en47 : enters PR 47 = true := by kernel_rfl
theorem en48 : enters PR 48 = true := by kernel_rfl
theorem en49 : enters PR 49 = true := by kernel_rfl
theorem en50 : enters PR 50 = true := by kernel_rfl
theorem en51 : enters PR 51 = true := by kernel_rfl
theorem en52 : enters PR 52 = true := by kernel_rfl
theorem en53 : enters PR 53 = true := by kernel_rfl
theorem en54 : enters PR 54 = true := by kernel_rfl
theorem en55 : enters PR 55 = true := by kernel_rfl
theorem en56 : enters PR 56 = true := by kernel_rfl
theorem en57 : enters PR 57 = true := by kernel_rfl
theorem en58 : enters PR 58 = true := by kernel_rfl
theorem en59 : enters PR 59 = true := by kernel_rfl
theorem en60 : enters PR 60 = true := by kernel_rfl
theorem en61 : enters PR 61 = true := by kernel_rfl
theorem en62 : enters PR 62 = true := by kernel_rfl
theorem en63 : enters PR 63 = true := by kernel_rfl
theorem en64 : enters PR 64 = true := by kernel_rfl
theorem en65 : enters PR 65 = true := by kernel_rfl
theorem en66 : enters PR 66 = true := by kernel_rfl
theorem en67 : enters PR 67 = true := by kernel_rfl
theorem en68 : enters PR 68 = true := by kernel_rfl
theorem en69 : enters PR 69 = true := by kernel_rfl
theorem en70 : enters PR 70 = true := by kernel_rfl
theorem en71 : enters PR 71 = true := by kernel_rfl
theorem en72 : enters PR 72 = true := by kernel_rfl
theorem en73 : enters PR 73 = true := by kernel_rfl
theorem en74 : enters PR 74 = true := by kernel_rfl
theorem en75 : enters PR 75 = true := by kernel_rfl
theorem en76 : enters PR 76 = true := by kernel_rfl
theorem en77 : enters PR 77 = true := by kernel_rfl
theorem en78 : enters PR 78 = true := by kernel_rfl
theorem en79 : enters PR 79 = true := by kernel_rfl
theorem en80 : enters PR 80 = true := by kernel_rfl
theorem en81 : enters PR 81 = true := by kernel_rfl
theorem en87 : enters PR 87 = true := by kernel_rfl
theorem en88 : enters PR 88 = true := by kernel_rfl
theorem en89 : enters PR 89 = true := by kernel_rfl
theorem en94 : enters PR 94 = true := by kernel_rfl
theorem en107 : enters PR 107 = true := by kernel_rfl
theorem en136 : enters PR 136 = true := by kernel_rfl
theorem en137 : enters PR 137 = true := by kernel_rfl
theorem en138 : enters PR 138 = true := by kernel_rfl
theorem en144 : enters PR 144 = true := by kernel_rfl
theorem en153 : enters PR 153 = true := by kernel_rfl
end Eng
end Go.Proofs.YtogfnbkccfkpoaaGreatDoor
namespace Go.Proofs.YtogfnbkccfkpoaaGreatDoor
open Go Go.RowKit
structure Rd where
 s : List UInt8
 pos : Nat
 bad : Bool
 uns : Bool
 ps : Bool
def Rd.adv (r : Rd) (k : Nat) : Rd := ⟨r.s, r.pos + k, r.bad, r.uns, r.ps⟩
def Rd.unsure (r : Rd) : Rd := ⟨r.s, r.pos, r.bad, true, r.ps⟩
def Rd.refuse (r : Rd) : Rd := ⟨r.s, r.pos, true, r.uns, r.ps⟩
def Rd.orUns (r : Rd) (u : Bool) : Rd := ⟨r.s, r.pos, r.bad, r.uns || u, r.ps⟩
def Rd.orBad (r : Rd) (b : Bool) : Rd := ⟨r.s, r.pos, r.bad || b, r.uns, r.ps⟩
structure SelN where
 kind : Nat
 op : Nat
 key : List UInt8
 val : List UInt8
 a : Int
 b : Int
 flag : Nat
def SelN.mk1 (kind : Nat) : SelN := ⟨kind, 0, [], [], 0, 0, 0⟩
inductive ST where
 | node (x : SelN) (kids : List ST)
def ST.top : ST → SelN
 | .node x _ => x
def ST.kids : ST → List ST
 | .node _ k => k
namespace Sp
def isSpace (c : Nat) : Bool := c == 32 || c == 9 || c == 10 || c == 13 || c == 12
def beginByte (c : Nat) : Bool := decide (97 ≤ c) && decide (c ≤ 122) || decide (65 ≤ c) && decide (c ≤ 90) || c == 95 || decide (128 ≤ c)
def nameByte (c : Nat) : Bool := beginByte c || c == 45 || decide (48 ≤ c) && decide (c ≤ 57)
def hexv (c : Nat) : Option Nat :=
 if 48 ≤ c ∧ c ≤ 57 then some (c - 48) else if 97 ≤ c ∧ c ≤ 102 then some (c - 97 + 10) else if 65 ≤ c ∧ c ≤ 70 then some (c - 65 + 10) else none
def lowerB (c : UInt8) : UInt8 := if 65 ≤ c.toNat ∧ c.toNat ≤ 90 then UInt8.ofNat (c.toNat + 32) else c
def lower (s : List UInt8) : List UInt8 := s.map lowerB
def next (r : Rd) : Nat := if r.pos < r.s.length then byteAt r.s r.pos else 0
def here (r : Rd) (t : List UInt8) : Bool := decide (r.pos + t.length ≤ r.s.length) && decide ((r.s.drop r.pos).take t.length = t)
def taken (r : Rd) (t : List UInt8) : Bool × Rd := if here r t then (true, r.adv t.length) else (false, r)
def commentEnd (s : List UInt8) : Nat → Nat → Option Nat
 | 0, _ => none
 | k + 1, i => if i + 1 < s.length then (if byteAt s i = 42 ∧ byteAt s (i + 1) = 47 then some (i + 2) else commentEnd s k (i + 1)) else none
def comment (r : Rd) : Rd :=
 match commentEnd r.s r.s.length (r.pos + 2) with
 | some p => ⟨r.s, p, r.bad, r.uns, r.ps⟩
 | none => r.refuse.unsure
def spacesGo : Nat → Rd → Rd
 | 0, r => r
 | k + 1, r =>
  if r.bad = false ∧ r.pos < r.s.length then
   if isSpace (next r) then spacesGo k (r.adv 1)
   else if here r [47, 42] then spacesGo k (comment r)
   else r
  else r
def spaces (r : Rd) : Bool × Rd := let r' := spacesGo (r.s.length + 1) r; (decide (r.pos < r'.pos), r')
def failed : ST := .node (SelN.mk1 1) []
def fail (r : Rd) : ST × Rd := (failed, r.refuse)
def escapeFollows (r : Rd) (i : Nat) : Bool := decide (i + 1 < r.s.length) && byteAt r.s i == 92 && !(byteAt r.s (i + 1) == 10) && !(byteAt r.s (i + 1) == 13) && !(byteAt r.s (i + 1) == 12)
def nameFollows (r : Rd) : Bool × Rd :=
 if r.pos < r.s.length ∧ byteAt r.s r.pos = 45 then
  let r' := if r.pos + 1 < r.s.length ∧ byteAt r.s (r.pos + 1) = 45 then r.unsure else r
  (decide (r.pos + 1 < r.s.length) && beginByte (byteAt r.s (r.pos + 1)) || escapeFollows r (r.pos + 1), r')
 else (decide (r.pos < r.s.length) && beginByte (byteAt r.s r.pos) || escapeFollows r r.pos, r)
def pointGo (s : List UInt8) : Nat → Nat → Nat → Option Nat
 | 0, _, c => some c
 | k + 1, i, c => if byteAt s i < 128 ∨ 191 < byteAt s i then none else pointGo s k (i + 1) (c * 64 + byteAt s i - 128)
def pointTail (s : List UInt8) (i c many least : Nat) : Nat × Nat :=
 if s.length < i + many then (0, 0) else
  match pointGo s (many - 1) (i + 1) c with
  | none => (0, 0)
  | some c => if c < least ∨ 1114111 < c ∨ 55296 ≤ c ∧ c < 57344 then (0, 0) else (c, many)
def point (s : List UInt8) (i : Nat) : Nat × Nat :=
 let f := byteAt s i
 if f < 128 then (f, 1) else
  if 194 ≤ f ∧ f < 224 then pointTail s i (f - 192) 2 128
  else if 224 ≤ f ∧ f < 240 then pointTail s i (f - 224) 3 2048
  else if 240 ≤ f ∧ f < 245 then pointTail s i (f - 240) 4 65536
  else (0, 0)
def readableGo (s : List UInt8) : Nat → Nat → Bool
 | 0, _ => true
 | k + 1, i => if i < s.length then (if (point s i).2 = 0 ∨ (point s i).1 = 0 ∨ (point s i).1 = 65279 then false else readableGo s k (i + (point s i).2)) else true
def readable (s : List UInt8) : Bool := readableGo s (s.length + 1) 0
def hexGo : Nat → Nat → Nat → Rd → Nat × Nat × Rd
 | 0, n, many, r => (n, many, r)
 | k + 1, n, many, r => match hexv (next r) with
  | some d => hexGo k (16 * n + d) (many + 1) (r.adv 1)
  | none => (n, many, r)
def bytesOf (b : ByteArray) : List UInt8 := b.data.toList
def utf8 (n : Nat) : List UInt8 := bytesOf (Utf8.encode (n : Int))
def escape (r : Rd) : List UInt8 × Rd :=
 let r := (r.adv 1)
 let (n, many, r1) := hexGo 6 0 0 r
 if many = 0 then
  let k := (point r.s r.pos).2
  ((r.s.drop r.pos).take k, r.adv k)
 else
  let (is, r2) := taken r1 [13, 10]
  let r3 := if is = false ∧ isSpace (next r2) then (r2.adv 1) else r2
  if n = 0 ∨ n = 65279 ∨ 1114111 < n ∨ 55296 ≤ n ∧ n < 57344 then ([], r3.unsure) else (utf8 n, r3)
def restGo : Nat → List UInt8 → Rd → List UInt8 × Rd
 | 0, out, r => (out, r)
 | k + 1, out, r =>
  if r.pos < r.s.length ∧ r.bad = false then
   if nameByte (next r) then restGo k (out ++ (r.s.drop r.pos).take 1) (r.adv 1)
   else if escapeFollows r r.pos then restGo k (out ++ (escape r).1) (escape r).2
   else (out, r)
  else (out, r)
def rest (r : Rd) : List UInt8 × Rd := restGo (r.s.length + 1) [] r
def name (r : Rd) : List UInt8 × Rd :=
 let (is, r1) := nameFollows r
 if is then rest r1 else ([], r1.refuse)
def hash (r : Rd) : List UInt8 × Rd :=
 let (is, r1) := nameFollows r
 let r2 := if is then r1 else (r1.orUns (nameByte (next r1))).orBad (!nameByte (next r1))
 if r2.bad then ([], r2) else rest r2
def quotedGo (q : Nat) : Nat → List UInt8 → Rd → List UInt8 × Rd
 | 0, _, r => ([], r.refuse)
 | k + 1, out, r =>
  if r.pos < r.s.length then
   let c := next r
   if c = q then (out, (r.adv 1))
   else if c = 10 ∨ c = 13 ∨ c = 12 then ([], r.refuse)
   else if ¬ c = 92 then quotedGo q k (out ++ (r.s.drop r.pos).take 1) (r.adv 1)
   else if escapeFollows r r.pos then quotedGo q k (out ++ (escape r).1) (escape r).2
   else
    let (is, r2) := taken (r.adv 1) [13, 10]
    quotedGo q k out (if is then r2 else (r2.adv 1))
  else ([], r.refuse)
def quoted (r : Rd) : List UInt8 × Rd := quotedGo (next r) (r.s.length + 2) [] (r.adv 1)
def value (r : Rd) : List UInt8 × Rd :=
 let c := next r
 if c = 34 ∨ c = 39 then quoted r
 else
  let (is, r1) := nameFollows r
  name (if is = false ∧ (nameByte c ∨ 128 ≤ c) then r1.unsure else r1)
def signs : List (List UInt8) := [[], [], [61], [33, 61], [126, 61], [124, 61], [94, 61], [36, 61], [42, 61]]
def signGo (r : Rd) : Nat → Nat → Nat × Rd
 | 0, _ => (1, r)
 | k + 1, i => if (taken r (signs.getD i [])).1 then (i, (taken r (signs.getD i [])).2) else signGo r k (i + 1)
def attrib (r : Rd) : ST × Rd :=
 let (_, r) := spaces r
 let (key, r) := name r
 let (_, r) := spaces r
 if r.bad then fail r else
  let (e, r) := taken r [93]
  if e then (ST.node ⟨5, 1, lower key, [], 0, 0, 0⟩ [], r) else
   let (op, r) := signGo r 7 2
   if op = 1 then fail ((r.orUns (next r == 124)).orUns (next r == 35)) else
    let (_, r) := spaces r
    let (val, r) := value r
    let (_, r) := spaces r
    let c := next r
    let (fl, r) := if r.bad = false ∧ (c = 105 ∨ c = 73) then (1, (spaces (r.adv 1)).2) else (0, if c = 115 ∨ c = 83 then r.unsure else r)
    let (e, r) := taken r [93]
    if e then (ST.node ⟨5, op, lower key, val, 0, 0, fl⟩ [], r) else fail r
def elements : List (List UInt8) := [[98, 101, 102, 111, 114, 101], [97, 102, 116, 101, 114], [102, 105, 114, 115, 116, 45, 108, 105, 110, 101], [102, 105, 114, 115, 116, 45, 108, 101, 116, 116, 101, 114]]
def element (r : Rd) : List UInt8 × Rd :=
 let (nm, r) := name r
 let nm := lower nm
 let r := if elements.contains nm then r else r.unsure
 (nm, r.orUns (next r == 40))
def plain (nm : List UInt8) : Option SelN :=
 if nm = [102, 105, 114, 115, 116, 45, 99, 104, 105, 108, 100] then some { SelN.mk1 6 with b := 1 }
 else if nm = [108, 97, 115, 116, 45, 99, 104, 105, 108, 100] then some { SelN.mk1 6 with b := 1, flag := 1 }
 else if nm = [102, 105, 114, 115, 116, 45, 111, 102, 45, 116, 121, 112, 101] then some { SelN.mk1 6 with b := 1, flag := 2 }
 else if nm = [108, 97, 115, 116, 45, 111, 102, 45, 116, 121, 112, 101] then some { SelN.mk1 6 with b := 1, flag := 3 }
 else if nm = [111, 110, 108, 121, 45, 99, 104, 105, 108, 100] then some (SelN.mk1 7)
 else if nm = [111, 110, 108, 121, 45, 111, 102, 45, 116, 121, 112, 101] then some { SelN.mk1 7 with flag := 2 }
 else if nm = [101, 109, 112, 116, 121] then some (SelN.mk1 8)
 else if nm = [114, 111, 111, 116] then some (SelN.mk1 9)
 else if nm = [105, 110, 112, 117, 116] then some (SelN.mk1 10)
 else if nm = [108, 105, 110, 107] then some (SelN.mk1 11)
 else if nm = [101, 110, 97, 98, 108, 101, 100] then some (SelN.mk1 12)
 else if nm = [100, 105, 115, 97, 98, 108, 101, 100] then some (SelN.mk1 13)
 else if nm = [99, 104, 101, 99, 107, 101, 100] then some (SelN.mk1 14)
 else none
def nthFlag (nm : List UInt8) : Option Nat :=
 if nm = [110, 116, 104, 45, 99, 104, 105, 108, 100] then some 0
 else if nm = [110, 116, 104, 45, 108, 97, 115, 116, 45, 99, 104, 105, 108, 100] then some 1
 else if nm = [110, 116, 104, 45, 111, 102, 45, 116, 121, 112, 101] then some 2
 else if nm = [110, 116, 104, 45, 108, 97, 115, 116, 45, 111, 102, 45, 116, 121, 112, 101] then some 3
 else none
def openNames : List (List UInt8) := [
 [118, 105, 115, 105, 116, 101, 100],
 [104, 111, 118, 101, 114],
 [97, 99, 116, 105, 118, 101],
 [102, 111, 99, 117, 115],
 [116, 97, 114, 103, 101, 116],
 [109, 97, 116, 99, 104, 101, 115],
 [109, 97, 116, 99, 104, 101, 115, 111, 119, 110],
 [105, 115],
 [119, 104, 101, 114, 101],
 [115, 99, 111, 112, 101],
 [102, 105, 114, 115, 116, 45, 108, 105, 110, 101],
 [102, 105, 114, 115, 116, 45, 108, 101, 116, 116, 101, 114],
 [98, 101, 102, 111, 114, 101],
 [97, 102, 116, 101, 114],
 [97, 110, 121, 45, 108, 105, 110, 107],
 [102, 111, 99, 117, 115, 45, 119, 105, 116, 104, 105, 110],
 [102, 111, 99, 117, 115, 45, 118, 105, 115, 105, 98, 108, 101],
 [114, 101, 113, 117, 105, 114, 101, 100],
 [111, 112, 116, 105, 111, 110, 97, 108],
 [114, 101, 97, 100, 45, 111, 110, 108, 121],
 [114, 101, 97, 100, 45, 119, 114, 105, 116, 101],
 [100, 101, 102, 97, 117, 108, 116],
 [118, 97, 108, 105, 100],
 [105, 110, 118, 97, 108, 105, 100],
 [105, 110, 100, 101, 116, 101, 114, 109, 105, 110, 97, 116, 101],
 [100, 101, 102, 105, 110, 101, 100],
 [102, 117, 108, 108, 115, 99, 114, 101, 101, 110],
 [104, 111, 115, 116],
 [108, 111, 99, 97, 108, 45, 108, 105, 110, 107],
 [99, 117, 114, 114, 101, 110, 116],
 [112, 97, 115, 116],
 [102, 117, 116, 117, 114, 101],
 [100, 105, 114],
 [110, 116, 104, 45, 99, 111, 108],
 [110, 116, 104, 45, 108, 97, 115, 116, 45, 99, 111, 108],
 [112, 108, 97, 99, 101, 104, 111, 108, 100, 101, 114, 45, 115, 104, 111, 119, 110],
 [105, 110, 45, 114, 97, 110, 103, 101],
 [111, 117, 116, 45, 111, 102, 45, 114, 97, 110, 103, 101],
 [112, 97, 114, 101, 110, 116],
 [98, 97, 99, 107, 100, 114, 111, 112],
 [99, 117, 101],
 [103, 114, 97, 109, 109, 97, 114, 45, 101, 114, 114, 111, 114],
 [109, 97, 114, 107, 101, 114],
 [112, 108, 97, 99, 101, 104, 111, 108, 100, 101, 114],
 [115, 101, 108, 101, 99, 116, 105, 111, 110],
 [115, 112, 101, 108, 108, 105, 110, 103, 45, 101, 114, 114, 111, 114],
 [104, 101, 97, 100, 101, 114],
 [98, 117, 116, 116, 111, 110],
 [99, 104, 101, 99, 107, 98, 111, 120],
 [114, 97, 100, 105, 111],
 [115, 117, 98, 109, 105, 116],
 [116, 101, 120, 116],
 [105, 109, 97, 103, 101],
 [102, 105, 108, 101],
 [112, 97, 115, 115, 119, 111, 114, 100],
 [114, 101, 115, 101, 116],
 [115, 101, 108, 101, 99, 116, 101, 100],
 [104, 105, 100, 100, 101, 110],
 [118, 105, 115, 105, 98, 108, 101],
 [102, 105, 114, 115, 116],
 [108, 97, 115, 116],
 [101, 118, 101, 110],
 [111, 100, 100],
 [101, 113],
 [103, 116],
 [108, 116]]
def isOpen (nm : List UInt8) : Bool := openNames.contains nm
def kindOf (nm : List UInt8) : Nat :=
 if nm = [110, 111, 116] then 18 else if nm = [104, 97, 115] then 19 else if nm = [104, 97, 115, 99, 104, 105, 108, 100] then 20 else if nm = [99, 111, 110, 116, 97, 105, 110, 115] then 16 else if nm = [99, 111, 110, 116, 97, 105, 110, 115, 111, 119, 110] then 17 else if nm = [108, 97, 110, 103] then 15 else 0
def small (r : Rd) (s : List UInt8) : List UInt8 × Rd := (lower s, r.orUns (s.any fun c => decide (128 ≤ c.toNat)))
def digitsGo : Nat → Nat → Bool → Rd → Nat × Bool × Rd
 | 0, n, is, r => (n, is, r)
 | k + 1, n, is, r => if 48 ≤ next r ∧ next r ≤ 57 then digitsGo k (min (10 * n + (next r - 48)) 100000) true (r.adv 1) else (n, is, r)
def digits (r : Rd) : Nat × Bool × Rd :=
 let (n, is, r) := digitsGo (r.s.length + 1) 0 false r
 (n, is, r.orUns (n == 100000))
def word (r : Rd) (t : List UInt8) : Bool × Rd :=
 let e := r.pos + t.length
 if r.s.length < e ∨ ¬ lower ((r.s.drop r.pos).take t.length) = t ∨ e < r.s.length ∧ (nameByte (byteAt r.s e) ∨ byteAt r.s e = 92) then (false, r) else (true, r.adv t.length)
def anyBack (s : List UInt8) (i : Nat) : Bool := ((s.drop i).take 4).any fun c => c.toNat == 92
def count (r : Rd) : Int × Int × Rd :=
 let (o, r) := word r [111, 100, 100]
 if o then (2, 1, r) else
 let (e, r) := word r [101, 118, 101, 110]
 if e then (2, 0, r) else
 let (m, r) := taken r [45]
 let (_, r) := if m then (false, r) else taken r [43]
 let sign : Int := if m then -1 else 1
 let (n, is, r) := digits r
 let c := next r
 if ¬ c = 110 ∧ ¬ c = 78 then
  let r := (r.orBad (!is)).orUns (anyBack r.s r.pos)
  let r := r.orUns (here r [111, 102])
  (0, sign * n, r)
 else
  let r := (r.adv 1)
  let n : Nat := if is then n else 1
  let start := r.pos
  let (_, r) := spaces r
  let c := next r
  if ¬ c = 43 ∧ ¬ c = 45 then
   (sign * n, 0, r.orUns ((r.pos == start && (nameByte c || c == 92)) || c == 111 || c == 79 || (decide (48 ≤ c) && decide (c ≤ 57))))
  else
   let r := (r.adv 1)
   let (_, r) := spaces r
   let (k, was, r) := digits r
   let r := r.orBad (!was)
   (sign * n, if c = 45 then -(k : Int) else k, r)
section
variable (grp : Rd → ST × Rd)
def closed (x : SelN) (kid : List ST) (r : Rd) : ST × Rd :=
 if r.bad then fail r else
  let (e, r) := taken r [41]
  if e then (ST.node x kid, r) else fail r
def argument (kind : Nat) (flag : Option Nat) (r : Rd) : ST × Rd :=
 match flag with
 | some fl =>
  let (_, r) := spaces r
  let (a, b, r) := count r
  let (_, r) := spaces r
  closed ⟨6, 0, [], [], a, b, fl⟩ [] r
 | none =>
  if kind = 18 ∨ kind = 19 ∨ kind = 20 then
   let (_, r) := spaces r
   let c := next r
   let r := if c = 62 ∨ c = 43 ∨ c = 126 then r.unsure else r
   let (kid, r) := grp r
   closed (SelN.mk1 kind) [kid] r
  else if kind = 15 then
   let (_, r) := spaces r
   let c := next r
   let r := if c = 34 ∨ c = 39 ∨ c = 42 then r.unsure else r
   let (nm, r) := name r
   let (v, r) := small r nm
   let (_, r) := spaces r
   let r := r.orUns (next r == 44)
   closed { SelN.mk1 kind with val := v } [] r
  else
   let (_, r) := spaces r
   let (nm, r) := value r
   let (v, r) := small r nm
   let (_, r) := spaces r
   closed { SelN.mk1 kind with val := v } [] r
def pseudo (r : Rd) : ST × Rd :=
 let (nm, r) := name r
 let nm := lower nm
 if r.bad then fail r else
 match plain nm with
 | some x => if next r = 40 then fail r.unsure else (ST.node x [], r)
 | none =>
  if isOpen nm then fail r.unsure else
   let flag := nthFlag nm
   let kind := kindOf nm
   if flag = none ∧ kind = 0 then fail r else
    let (e, r) := taken r [40]
    if e then argument grp kind flag r else fail r
def simple (r : Rd) : List ST × List UInt8 × Bool × Rd :=
 let c := next r
 if c = 46 then
  let (nm, r) := name (r.adv 1)
  ([ST.node { SelN.mk1 3 with val := nm } []], [], true, r)
 else if c = 35 then
  let (nm, r) := hash (r.adv 1)
  ([ST.node { SelN.mk1 4 with val := nm } []], [], true, r)
 else if c = 91 then
  let (l, r) := attrib (r.adv 1)
  ([l], [], true, r)
 else if c = 58 then
  let (two, r) := taken (r.adv 1) [58]
  if two then
   let (nm, r) := element r
   ([], nm, true, r)
  else
   let (l, r) := pseudo grp r
   ([l], [], true, r)
 else ([], [], false, r)
def compoundGo (pe : Bool) : Nat → List ST → List UInt8 → Nat → Rd → (ST × Rd) ⊕ (List ST × List UInt8 × Nat × Rd)
 | 0, l, v, many, r => .inr (l, v, many, r)
 | k + 1, l, v, many, r =>
  if r.bad = false ∧ r.pos < r.s.length then
   let (one, what, is, r) := simple grp r
   if is = false then .inr (l, v, many, r)
   else if ¬ what = [] then
    if pe = false then .inl (fail (r.orUns r.ps))
    else if ¬ v = [] then .inl (fail r.unsure)
    else compoundGo pe k l what (many + 1) r
   else compoundGo pe k (l ++ one) v (many + 1) (if v = [] then r else r.unsure)
  else .inr (l, v, many, r)
def compound (pe : Bool) (r : Rd) : ST × Rd :=
 let (st, r) := taken r [42]
 let (l, many, r) :=
  if st then ([], 1, r) else
   let (is, r) := nameFollows r
   if is then
    let (nm, r) := name r
    ([ST.node { SelN.mk1 2 with key := lower nm } []], 1, r)
   else ([], 0, r)
 match compoundGo grp pe (r.s.length + 1) l [] many r with
 | .inl x => x
 | .inr (l, v, many, r) =>
  let r := if next r = 124 ∨ next r = 42 then r.unsure else r
  if many = 0 then fail r else (ST.node { SelN.mk1 21 with val := v } l, r)
def lastPseudo : Nat → ST → List UInt8
 | 0, _ => []
 | k + 1, .node x l =>
  if x.kind = 22 then (match l.getLast? with | some y => lastPseudo k y | none => []) else if x.kind = 21 then x.val else []
mutual
def depth : ST → Nat
 | .node _ l => depthL l + 1
def depthL : List ST → Nat
 | [] => 0
 | t :: r => max (depth t) (depthL r)
end
def ends (t : ST) : Bool := t.top.kind == 21 && !(t.top.val == []) || t.top.kind == 22 && !(lastPseudo (depth t) t == [])
def complexGo (pe : Bool) : Nat → ST → Rd → ST × Rd
 | 0, left, r => (left, r)
 | k + 1, left, r =>
  if r.bad then (left, r) else
   let (blank, r) := spaces r
   let c := next r
   let op := if c = 62 then 2 else if c = 43 then 3 else if c = 126 then 4 else 0
   let go : Option (Nat × Rd) :=
    if 0 < op then some (op, (spaces (r.adv 1)).2)
    else if r.s.length ≤ r.pos ∨ c = 44 ∨ c = 41 then none
    else if blank then some (1, r)
    else none
   match go with
   | none => (left, r)
   | some (op, r) =>
    if ends left then fail r.unsure
    else
     let (y, r) := compound grp pe r
     complexGo pe k (ST.node { SelN.mk1 22 with op := op } [left, y]) r
def complex (pe : Bool) (r : Rd) : ST × Rd :=
 let (_, r) := spaces r
 let (left, r) := compound grp pe r
 complexGo grp pe (r.s.length + 2) left r
def groupGo (pe : Bool) : Nat → List ST → Rd → List ST × Rd
 | 0, l, r => (l, r)
 | k + 1, l, r =>
  if r.bad then (l, r) else
   let (e, r) := taken r [44]
   if e then
    let (y, r) := complex grp pe r
    groupGo pe k (l ++ [y]) r
   else (l, r)
def groupW (pe : Bool) (r : Rd) : ST × Rd :=
 let (l, r) := complex grp pe r
 let (l, r) := groupGo grp pe (r.s.length + 2) [l] r
 (ST.node (SelN.mk1 23) l, r)
end
def group : Nat → Bool → Rd → ST × Rd
 | 0, _, r => (failed, r)
 | k + 1, pe, r => groupW (group k false) pe r
theorem commentEnd_le (s : List UInt8) : ∀ (k i p : Nat), commentEnd s k i = some p → i + 2 ≤ p ∧ p ≤ s.length
 | 0, i, p, h => by cases h
 | k + 1, i, p, h => by
  unfold commentEnd at h
  split at h
  ·split at h
   ·simp only [Option.some.injEq] at h; omega
   have := commentEnd_le s k (i + 1) p h; omega
  cases h
theorem comment_facts (r : Rd) : ∃ p b u, comment r = ⟨r.s, p, b, u, r.ps⟩ ∧ (b = true ∧ p = r.pos ∧ u = true ∨ b = r.bad ∧ u = r.uns ∧ r.pos + 4 ≤ p ∧ p ≤ r.s.length) := by
 unfold comment
 cases h : commentEnd r.s r.s.length (r.pos + 2) with
 | none => exact ⟨r.pos, true, true, rfl, .inl ⟨rfl, rfl, rfl⟩⟩
 | some p => have := commentEnd_le _ _ _ _ h; exact ⟨p, r.bad, r.uns, rfl, .inr ⟨rfl, rfl, by omega, by omega⟩⟩
theorem comment_is (s : List UInt8) (p : Nat) (b u ps : Bool) (hp : p ≤ s.length + 1) : ∃ p2 b2 u2, comment ⟨s, p, b, u, ps⟩ = ⟨s, p2, b2, u2, ps⟩ ∧ (b2 = true ∨ p + 4 ≤ p2) ∧ p ≤ p2 ∧ p2 ≤ s.length + 1 := by
 obtain ⟨p2, b2, u2, h, h2⟩ := comment_facts ⟨s, p, b, u, ps⟩
 refine ⟨p2, b2, u2, h, ?_⟩
 simp only at h2
 rcases h2 with ⟨h2, rfl, -⟩ | ⟨-, -, h2, h3⟩
 ·exact ⟨.inl h2, by omega, by omega⟩
 exact ⟨.inr h2, by omega, by omega⟩
theorem next_lt (r : Rd) : next r < 256 := by
 unfold next; split
 ·exact byteAt_lt _ _
 omega
def lowerAt (s : List UInt8) (i : Nat) : List UInt8 := (s.take i).map lowerB ++ s.drop i
theorem lowerAt_length (s : List UInt8) (i : Nat) : (lowerAt s i).length = s.length := by simp [lowerAt]; omega
theorem lowerAt_byte (s : List UInt8) (i : Nat) (h : i < s.length) : byteAt (lowerAt s i) i = byteAt s i := by
 have e : (lowerAt s i)[i]? = s[i]? := by
  unfold lowerAt
  rw [List.getElem?_append_right (by simp; omega)]
  simp [Nat.min_eq_left (by omega : i ≤ s.length)]
 simp [byteAt, List.getD_eq_getElem?_getD, e]
theorem lowerAt_succ (s : List UInt8) (i : Nat) (h : i < s.length) : lowerAt s (i + 1) = (lowerAt s i).set i (lowerB s[i]) := by
 have e1 : ((s.take i).map lowerB ++ s.drop i).set i (lowerB s[i]) = (s.take i).map lowerB ++ (s.drop i).set 0 (lowerB s[i]) := by
  rw [List.set_append_right _ _ (by simp; omega)]
  simp [Nat.min_eq_left (by omega : i ≤ s.length)]
 have e2 : (s.drop i).set 0 (lowerB s[i]) = lowerB s[i] :: s.drop (i + 1) := by
  rw [List.drop_eq_getElem_cons h]; rfl
 have e3 : s.take (i + 1) = s.take i ++ [s[i]] := List.take_succ_eq_append_getElem h
 unfold lowerAt
 rw [e1, e2, e3]
 simp only [List.map_append, List.map_cons, List.map_nil, List.append_assoc, List.cons_append, List.nil_append]
theorem lowerAt_yes (s : List UInt8) (i : Nat) (h : i < s.length) (h1 : 65 ≤ byteAt s i) (h2 : byteAt s i ≤ 90) : (lowerAt s i).set i (UInt8.ofNat (byteAt s i + 32)) = lowerAt s (i + 1) := by
 have e : byteAt s i = s[i].toNat := by simp [byteAt, h]
 rw [lowerAt_succ s i h, lowerB, if_pos (by omega), e]
theorem lowerAt_no (s : List UInt8) (i : Nat) (h : i < s.length) (h1 : ¬ (65 ≤ byteAt s i ∧ byteAt s i ≤ 90)) : lowerAt s (i + 1) = lowerAt s i := by
 have e : byteAt s i = s[i].toNat := by simp [byteAt, h]
 rw [lowerAt_succ s i h, lowerB, if_neg (by omega)]
 have e2 : (lowerAt s i)[i]? = some s[i] := by
  unfold lowerAt
  rw [List.getElem?_append_right (by simp; omega)]
  simp [Nat.min_eq_left (by omega : i ≤ s.length)]
 apply List.ext_getElem?
 intro k
 by_cases hk : i = k
 ·subst hk; rw [e2]; simp [lowerAt_length, h]
 simp [List.getElem?_set, hk]
theorem lowerAt_end (s : List UInt8) (i : Nat) (h : s.length ≤ i) : lowerAt s i = lower s := by
 unfold lowerAt lower
 rw [List.take_of_length_le h, List.drop_eq_nil_of_le h]; simp
def parsed (s : List UInt8) (pe : Bool) : ST × Bool × Bool :=
 if readable s = false then (failed, false, false) else
  let (l, r) := group (s.length + 2) pe ⟨s, 0, false, false, pe⟩
  let bad := r.bad || decide (r.pos < s.length)
  if bad then (failed, false, !r.uns) else (l, true, !r.uns)
end Sp
end Go.Proofs.YtogfnbkccfkpoaaGreatDoor
