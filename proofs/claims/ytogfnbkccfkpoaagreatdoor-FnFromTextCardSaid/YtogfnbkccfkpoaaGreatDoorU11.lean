/- A part (11) of the proof of the row of laws.FnFromText: lemmas on Rep, ImH, ImN. No condition but what each statement says. -/
import Derived.Test.YtogfnbkccfkpoaaGreatDoorU10
set_option linter.unusedSimpArgs false
set_option linter.unusedVariables false
set_option linter.unusedSectionVars false
namespace Go.Proofs.YtogfnbkccfkpoaaGreatDoor
open Go Go.RowKit
open Eng
def SlF (F : Nat → Prop) (w : World) (vl : Value) (vs : List Value) : Prop := w.ownsRow 0 48 1 vl vs.length vs ∧ ∀ b, vl.ownBlock = some b → F b
mutual
def Rep (F : Nat → Prop) (w : World) : IS → Value → Prop
 | .tag t, v => v = .iface 87 (.agg [str t].toArray)
 | .idt t, v => v = .iface 91 (.agg [str t].toArray)
 | .cls t, v => v = .iface 95 (.agg [str t].toArray)
 | .attr k x o i, v => v = .iface 99 (.agg [str k, str x, str o, .bool i].toArray)
 | .rel nm g, v => ∃ vl vs, v = .iface 114 (.agg [str nm, vl].toArray) ∧ SlF F w vl vs ∧ RepL F w g vs
 | .contains t o, v => v = .iface 118 (.agg [str t, .bool o].toArray)
 | .nth a b la ot, v => v = .iface 122 (.agg [.int .i64 a, .int .i64 b, .bool la, .bool ot].toArray)
 | .only o, v => v = .iface 124 (.agg [.bool o].toArray)
 | .flat ty, v => v = .iface ty (.agg [].toArray)
 | .lang t, v => v = .iface 131 (.agg [str t].toArray)
 | .never t, v => v = .iface 136 (.agg [str t].toArray)
 | .comp l pe, v => ∃ vl vs, v = .iface 105 (.agg [vl, str pe].toArray) ∧ SlF F w vl vs ∧ RepL F w l vs
 | .comb a c b, v => ∃ va vb, v = .iface 81 (.agg [va, .int .u8 (c : Int), vb].toArray) ∧ Rep F w a va ∧ Rep F w b vb
def RepL (F : Nat → Prop) (w : World) : List IS → List Value → Prop
 | [], vs => vs = []
 | x :: r, vs => ∃ v r', vs = v :: r' ∧ Rep F w x v ∧ RepL F w r r'
end
theorem SlF.mono {F G : Nat → Prop} {w w' : World} {vl : Value} {vs : List Value} {r : Option Nat} (h : SlF F w vl vs) (g : Gr w w' r) (hr : ∀ k, F k → k < w.heap.size → r ≠ some k) (hG : ∀ k, F k → k < w.heap.size → G k) : SlF G w' vl vs := by
 refine ⟨h.1.kept g ?_, fun b hb => hG b (h.2 b hb) (h.1.lt b hb).2⟩
 cases ho : vl.ownBlock with
 | none => exact .inl rfl
 | some k => exact .inr fun e => hr k (h.2 k ho) (h.1.lt k ho).2 e.symm
mutual
theorem Rep.mono {F G : Nat → Prop} {w w' : World} {r : Option Nat} (g : Gr w w' r) (hr : ∀ k, F k → k < w.heap.size → r ≠ some k) (hG : ∀ k, F k → k < w.heap.size → G k) : ∀ (x : IS) (v : Value), Rep F w x v → Rep G w' x v
 | .tag _, _, h => by simpa only [Rep] using h
 | .idt _, _, h => by simpa only [Rep] using h
 | .cls _, _, h => by simpa only [Rep] using h
 | .attr _ _ _ _, _, h => by simpa only [Rep] using h
 | .contains _ _, _, h => by simpa only [Rep] using h
 | .nth _ _ _ _, _, h => by simpa only [Rep] using h
 | .only _, _, h => by simpa only [Rep] using h
 | .flat _, _, h => by simpa only [Rep] using h
 | .lang _, _, h => by simpa only [Rep] using h
 | .never _, _, h => by simpa only [Rep] using h
 | .rel nm l, v, h => by
  rw [Rep] at h ⊢
  obtain ⟨vl, vs, h1, h2, h3⟩ := h
  exact ⟨vl, vs, h1, h2.mono g hr hG, RepL.mono g hr hG l vs h3⟩
 | .comp l pe, v, h => by
  rw [Rep] at h ⊢
  obtain ⟨vl, vs, h1, h2, h3⟩ := h
  exact ⟨vl, vs, h1, h2.mono g hr hG, RepL.mono g hr hG l vs h3⟩
 | .comb a c b, v, h => by
  rw [Rep] at h ⊢
  obtain ⟨va, vb, h1, h2, h3⟩ := h
  exact ⟨va, vb, h1, Rep.mono g hr hG a va h2, Rep.mono g hr hG b vb h3⟩
theorem RepL.mono {F G : Nat → Prop} {w w' : World} {r : Option Nat} (g : Gr w w' r) (hr : ∀ k, F k → k < w.heap.size → r ≠ some k) (hG : ∀ k, F k → k < w.heap.size → G k) : ∀ (l : List IS) (vs : List Value), RepL F w l vs → RepL G w' l vs
 | [], _, h => by simpa only [RepL] using h
 | x :: r, vs, h => by
  rw [RepL] at h ⊢
  obtain ⟨v, r', h1, h2, h3⟩ := h
  exact ⟨v, r', h1, Rep.mono g hr hG x v h2, RepL.mono g hr hG r r' h3⟩
end
theorem RepL.length {F : Nat → Prop} {w : World} : ∀ {l : List IS} {vs : List Value}, RepL F w l vs → vs.length = l.length
 | [], _, h => by rw [RepL] at h; subst h; rfl
 | x :: r, vs, h => by
  rw [RepL] at h
  obtain ⟨v, r', rfl, h2, h3⟩ := h
  simp [RepL.length h3]
theorem RepL.push {F : Nat → Prop} {w : World} {x : IS} {v : Value} (hx : Rep F w x v) : ∀ {l : List IS} {vs : List Value}, RepL F w l vs → RepL F w (l ++ [x]) (vs ++ [v])
 | [], _, h => by
  rw [RepL] at h; subst h
  rw [List.nil_append, RepL]
  exact ⟨v, [], rfl, hx, by rw [RepL]⟩
 | y :: r, vs, h => by
  rw [RepL] at h
  obtain ⟨u, r', rfl, h2, h3⟩ := h
  rw [List.cons_append, RepL]
  exact ⟨u, r' ++ [v], rfl, h2, RepL.push hx h3⟩
theorem RepL.get {F : Nat → Prop} {w : World} : ∀ {l : List IS} {vs : List Value}, RepL F w l vs → ∀ (i : Nat) (x : IS), l[i]? = some x → ∃ v, vs[i]? = some v ∧ Rep F w x v
 | [], _, h => fun i x hx => by simp at hx
 | y :: r, vs, h => fun i x hx => by
  rw [RepL] at h
  obtain ⟨u, r', rfl, h2, h3⟩ := h
  cases i with
  | zero => simp at hx; subst hx; exact ⟨u, rfl, h2⟩
  | succ i => exact RepL.get h3 i x (by simpa using hx)
theorem Rep.ifc {F : Nat → Prop} {w : World} {x : IS} {v : Value} (h : Rep F w x v) : ∃ t u, v = .iface t u := by
 cases x <;> rw [Rep] at h <;> first | exact ⟨_, _, h⟩ | (obtain ⟨_, _, h, -⟩ := h; exact ⟨_, _, h⟩)
theorem Rep.oneCell {F : Nat → Prop} {w : World} {x : IS} {v : Value} (h : Rep F w x v) : v.oneCell' = true := by
 obtain ⟨t, u, rfl⟩ := h.ifc; rfl
def SLG (base : Nat) (w : World) (l : List IS) (vl : Value) : Prop := ∃ vs, w.ownsRow base 48 1 vl vs.length vs ∧ RepL (fun c => base ≤ c ∧ vl.ownBlock ≠ some c) w l vs
theorem SLG.nil (base : Nat) (w : World) : SLG base w [] (.slice none 0 0) := ⟨[], World.ownsRow_nil w base 48 1, by rw [RepL]⟩
theorem SLG.gr {base : Nat} {w w' : World} {l : List IS} {vl : Value} {r : Option Nat} (h : SLG base w l vl) (g : Gr w w' r) (hr : ∀ k, r = some k → k < base) : SLG base w' l vl := by
 obtain ⟨vs, h1, h2⟩ := h
 refine ⟨vs, h1.kept g ?_, RepL.mono g (fun k hk _ e => by have := hr k e; omega) (fun k hk _ => hk) l vs h2⟩
 cases ho : vl.ownBlock with
 | none => exact .inl rfl
 | some k => exact .inr fun e => by have := hr k e.symm; have := (h1.lt k ho).1; omega
theorem SLG.grN {base : Nat} {w w' : World} {l : List IS} {vl : Value} (h : SLG base w l vl) (g : Gr w w' none) : SLG base w' l vl := h.gr g (by simp)
theorem SLG.mono {base base' : Nat} {w : World} {l : List IS} {vl : Value} (h : SLG base w l vl) (hb : base' ≤ base) : SLG base' w l vl := by
 obtain ⟨vs, h1, h2⟩ := h
 exact ⟨vs, own_mono h1 hb, RepL.mono (Gr.refl w none) (fun k _ _ => by simp) (fun k hk _ => ⟨om, hk.2⟩) l vs h2⟩
theorem SLG.lt {base : Nat} {w : World} {l : List IS} {vl : Value} (h : SLG base w l vl) : ∀ k, vl.ownBlock = some k → base ≤ k ∧ k < w.heap.size := by
 obtain ⟨vs, h1, h2⟩ := h; exact h1.lt
theorem SLG.slice {base : Nat} {w : World} {l : List IS} {vl : Value} (h : SLG base w l vl) : ∃ a c, vl = .slice a l.length c := by
 obtain ⟨vs, h1, h2⟩ := h
 rw [RepL.length h2] at h1
 exact own_any h1
theorem SLG.done {base : Nat} {w : World} {l : List IS} {vl : Value} (h : SLG base w l vl) : ∃ vs, SlF (base ≤ ·) w vl vs ∧ RepL (base ≤ ·) w l vs := by
 obtain ⟨vs, h1, h2⟩ := h
 exact ⟨vs, ⟨own_mono h1 (Nat.zero_le _), fun b hb => (h1.lt b hb).1⟩, RepL.mono (Gr.refl w none) (fun k _ _ => by simp) (fun k hk _ => hk.1) l vs h2⟩
theorem SLG.rel {base : Nat} {w : World} {l : List IS} {vl : Value} (h : SLG base w l vl) (nm : List UInt8) : Rep (base ≤ ·) w (.rel nm l) (.iface 114 (.agg [str nm, vl].toArray)) := by
 obtain ⟨vs, h1, h2⟩ := h.done
 rw [Rep]; exact ⟨vl, vs, rfl, h1, h2⟩
theorem SLG.comp {base : Nat} {w : World} {l : List IS} {vl : Value} (h : SLG base w l vl) (pe : List UInt8) : Rep (base ≤ ·) w (.comp l pe) (.iface 105 (.agg [vl, str pe].toArray)) := by
 obtain ⟨vs, h1, h2⟩ := h.done
 rw [Rep]; exact ⟨vl, vs, rfl, h1, h2⟩
theorem Rep.apart {base : Nat} {w1 w : World} {l : List IS} {vl : Value} {x : IS} {v : Value} (h : SLG base w1 l vl) (hb : base ≤ w1.heap.size) (hx : Rep (w1.heap.size ≤ ·) w x v) : Rep (fun c => base ≤ c ∧ vl.ownBlock ≠ some c) w x v :=
 Rep.mono (Gr.refl w none) (fun k _ _ => by simp) (fun k hk _ => ⟨om, fun e => by have := (h.lt k e).2; omega⟩) x v hx
theorem Rep.gr {base : Nat} {w w' : World} {x : IS} {v : Value} {r : Option Nat} (h : Rep (base ≤ ·) w x v) (g : Gr w w' r) (hr : ∀ k, r = some k → k < base) : Rep (base ≤ ·) w' x v :=
 Rep.mono g (fun k hk _ e => by have := hr k e; omega) (fun k hk _ => hk) x v h
theorem Rep.grN {F : Nat → Prop} {w w' : World} {x : IS} {v : Value} (h : Rep F w x v) (g : Gr w w' none) : Rep F w' x v :=
 Rep.mono g (fun k hk _ => by simp) (fun k hk _ => hk) x v h
theorem Rep.base {base base' : Nat} {w : World} {x : IS} {v : Value} (h : Rep (base ≤ ·) w x v) (hb : base' ≤ base) : Rep (base' ≤ ·) w x v :=
 Rep.mono (Gr.refl w none) (fun k _ _ => by simp) (fun k hk _ => by omega) x v h
theorem SLG.one {base b : Nat} {w w' : World} {x : IS} {v : Value} (hx : Rep (base ≤ ·) w x v) (hb : b = w.heap.size) (hB : Blk w' b 48 [v]) (g : Gr w w' none) (hbase : base ≤ w.heap.size) : SLG base w' [x] (.slice (some ⟨b, 0, none⟩) 1 1) := by
 refine ⟨[v], ⟨rfl, .inr ⟨b, 1, #[v], rfl, om, hB, Nat.le_refl _, by decide, rfl, rfl⟩⟩, ?_⟩
 rw [RepL]
 refine ⟨v, [], rfl, ?_, by rw [RepL]⟩
 exact Rep.mono g (fun k _ _ => by simp) (fun k hk hlt => ⟨hk, by simp [Value.ownBlock]; omega⟩) x v hx
section
variable {P : Program} {w w' : World} {base : Nat} {e : TypeId} {size : Nat} {v v' : Value} {n : Nat} {xs : List Value}
theorem append_block (t ty : TypeId) (i : TypeInfo) (z : Value) (bytes : Nat) (ht : P.underlying t = some (.slice e)) (hi : P.info? e = some i) (hz : i.zero = some z)
 (hsize : i.size = size) (hby : i.bytes = bytes) (hsz : 0 < size) (hown : w.ownsRow base e size v n xs)
 (a : Addr) (m c : Nat) (news : List Value) (hl : news.length = m * size) (hnews : ∀ j u, news[j]? = some u → w.cell? (a.add j) = some u) (h1 : ∀ u ∈ news, u.oneCell' = true)
 (h63 : n + m ≤ maxLen) (hbytes : (n + m) * bytes ≤ 140737488355328) (hm : 0 < m)
 (hr : (Builtin.append_ #[t, t] ty #[v, .slice (some a) m c]).run P w = .ok v' w') : ∀ k, v'.ownBlock = some k → v.ownBlock = some k ∨ w.heap.size ≤ k := by
 subst hsize
 subst hby
 have hsmall : n + m ≤ 9223372036854775807 := by simp only [maxLen] at h63; omega
 rcases hown.2 with ⟨rfl, rfl⟩ | ⟨g, cap, cur, rfl, hbg, hg, hnc, hcm, hcs, htake⟩
 ·have hx := run_append_nil (P := P) w t ty e i z ht hi hz a m c news hl hnews hm om (by have hb := hbytes; simp only [Nat.zero_add] at hb; omega)
  rw [hx] at hr
  cases hr
  intro k hk
  simp [Value.ownBlock] at hk
  omega
 by_cases hroom : n + m ≤ cap
 ·have hfit : n * i.size + news.length ≤ cur.size := by rw [hl, hcs, ← Nat.add_mul]; exact Nat.mul_le_mul_right _ hroom
  have hx := run_append_room (P := P) w t ty e i ht hi g n cap cur hg a m c news hl hnews h1 hroom hfit
  rw [hx] at hr
  cases hr
  intro k hk
  exact .inl hk
 have holds : ∀ j u, xs[j]? = some u → w.cell? ((⟨g, 0, none⟩ : Addr).add j) = some u := hown.cells (g := g) rfl
 have hx := run_append_grow (P := P) w t ty e i z ht hi hz ⟨g, 0, none⟩ n cap xs hown.1 holds a m c news hl hnews om om (growslice_fits om hbytes)
 rw [hx] at hr
 cases hr
 intro k hk
 simp [Value.ownBlock] at hk
 omega
end
section
variable [Df]
variable {P : Program} {Q : Post} {ops : Array Oper} {rest : List Oper} {n : Nat} {l : Fr} {w : World} {d : Nat} {ty : TypeId} {pos : String} {af : Array Edge} {x y : Operand} {t : TypeId}
theorem W.appendSel {base kb c : Nat} {vl v : Value} {xs : List IS} {X : IS} (hE : elInfo P t = some (48, 1, 16)) (hS : SLG base w xs vl) (hs : ev l x = some vl) (hy : ev l y = some (.slice (some ⟨kb, 0, none⟩) 1 c)) (hK : Blk w kb 48 [v]) (hv : Rep (fun c => base ≤ c ∧ vl.ownBlock ≠ some c) w X v) (hlen : xs.length ≤ 90000) (hbase : base ≤ w.heap.size) (hdn : Nat.blt d n = true)
 (h : ∀ v' w', SLG base w' (xs ++ [X]) v' → Gr w w' vl.ownBlock → W P ops Q n rest ((d, v') :: l) w') : W P ops Q n (⟨some d, .call ⟨.builtin .append, #[x, y], #[t, t]⟩, ty, pos, af, none⟩ :: rest) l w := by
 obtain ⟨vs, ho, hp⟩ := hS
 have hvl := RepL.length hp
 obtain ⟨hu, i, z, hi, hz, hs1, hb1, hz1, h0⟩ := elInfo.spec hE
 intro a ha
 refine wpList_plain rfl fun K hK' => ?_
 have hnews : ∀ j u, [v][j]? = some u → w.cell? ((⟨kb, 0, none⟩ : Addr).add j) = some u := by
  intro j u hj
  cases j with
  | zero => simp at hj; subst hj; exact hK.cell rfl
  | succ j => simp at hj
 have hone : ∀ u ∈ [v], u.oneCell' = true := by
  intro u hu; simp at hu; subst hu; exact hv.oneCell
 have h63 : vs.length + 1 ≤ maxLen := by simp only [maxLen]; omega
 have hby : (vs.length + 1) * 16 ≤ 140737488355328 := by omega
 obtain ⟨v', w', hr, h2, h3, -⟩ := run_append_own (P := P) w base t ty 48 i z 1 16 hu hi hz hs1 hb1 hz1 h0 vl vs.length vs ho ⟨kb, 0, none⟩ 1 c [v] rfl hnews hone h63 hby hbase
 have hb := append_block (P := P) t ty i z 16 hu hi hz hs1 hb1 h0 ho ⟨kb, 0, none⟩ 1 c [v] rfl hnews hone h63 hby dC hr
 unfold Oper.wp execOp
 simp only [resolve, invoke, builtin, Sem.run_bind, Sem.run_pure, Result.andThen_ok, List.map_toArray, List.map_cons, List.map_nil, ha.ev hs, ha.ev hy, hr]
 refine hK' _ _ (h v' w' ⟨vs ++ [v], by rw [List.length_append]; exact h2, ?_⟩ h3 _ (ha.put hdn v'))
 have hst : ∀ k, (base ≤ k ∧ vl.ownBlock ≠ some k) → k < w.heap.size → (base ≤ k ∧ v'.ownBlock ≠ some k) := by
  intro k hk hlt
  refine ⟨hk.1, fun e => ?_⟩
  rcases hb k e with h5 | h5
  ·exact hk.2 h5
  omega
 exact RepL.push (Rep.mono h3 (fun k hk _ => hk.2) hst _ _ hv) (RepL.mono h3 (fun k hk _ => hk.2) hst _ _ hp)
end
def PSel (p : Nat) (s : List UInt8) (d : Nat) (acc : Bool) (w0 : World) : Option (IS × Nat) → Value → World → Prop
 | none, v, w' => ∃ r e i, v = .tuple #[r, e] ∧ ErrV e ∧ PD p s i d acc w' ∧ Gr w0 w' (some p)
 | some (x, i), v, w' => ∃ vx, v = .tuple #[vx, .nilIface] ∧ Rep (w0.heap.size ≤ ·) w' x vx ∧ PD p s i d acc w' ∧ Gr w0 w' (some p)
def PGrp (p : Nat) (s : List UInt8) (d : Nat) (acc : Bool) (w0 : World) : Option (List IS × Nat) → Value → World → Prop
 | none, v, w' => ∃ r e i, v = .tuple #[r, e] ∧ ErrV e ∧ PD p s i d acc w' ∧ Gr w0 w' (some p)
 | some (l, i), v, w' => ∃ vl, v = .tuple #[vl, .nilIface] ∧ SLG w0.heap.size w' l vl ∧ PD p s i d acc w' ∧ Gr w0 w' (some p)
def PPse (p : Nat) (s : List UInt8) (d : Nat) (acc : Bool) (w0 : World) : Im.PseRes → Value → World → Prop
 | none, v, w' => ∃ a b e i, v = .tuple #[a, b, e] ∧ ErrV e ∧ PD p s i d acc w' ∧ Gr w0 w' (some p)
 | some (none, nm, i), v, w' => v = .tuple #[.nilIface, str nm, .nilIface] ∧ PD p s i d acc w' ∧ Gr w0 w' (some p)
 | some (some x, nm, i), v, w' => ∃ vx, v = .tuple #[vx, str [], .nilIface] ∧ Rep (w0.heap.size ≤ ·) w' x vx ∧ PD p s i d acc w' ∧ Gr w0 w' (some p)
def GrpI (p : Nat) (s : List UInt8) (acc : Bool) (grp : Nat → Option (List IS × Nat)) (lo : Nat) : Prop := ∀ (j d : Nat) (w : World), lo ≤ j → j ≤ s.length → d ≤ j → PD p s j d acc w → RNG p w → CR PR 20 [pP p] w fun v w' => PGrp p s d acc w (grp j) v w'
def GrpLe (s : List UInt8) (grp : Nat → Option (List IS × Nat)) (lo : Nat) : Prop := ∀ j l j', lo ≤ j → j ≤ s.length → grp j = some (l, j') → j ≤ j' ∧ j' ≤ s.length
end Go.Proofs.YtogfnbkccfkpoaaGreatDoor
set_option maxRecDepth 100000
set_option maxHeartbeats 4000000
namespace Go.Proofs.YtogfnbkccfkpoaaGreatDoor
open Go Go.RowKit
open Eng
theorem mi114 : isIfc PR 114 = some false := by kernel_rfl
theorem mi118 : isIfc PR 118 = some false := by kernel_rfl
theorem mi122 : isIfc PR 122 = some false := by kernel_rfl
theorem mi124 : isIfc PR 124 = some false := by kernel_rfl
theorem mi126 : isIfc PR 126 = some false := by kernel_rfl
theorem mi127 : isIfc PR 127 = some false := by kernel_rfl
theorem mi128 : isIfc PR 128 = some false := by kernel_rfl
theorem mi129 : isIfc PR 129 = some false := by kernel_rfl
theorem mi131 : isIfc PR 131 = some false := by kernel_rfl
theorem mi132 : isIfc PR 132 = some false := by kernel_rfl
theorem mi133 : isIfc PR 133 = some false := by kernel_rfl
theorem mi134 : isIfc PR 134 = some false := by kernel_rfl
theorem mi136 : isIfc PR 136 = some false := by kernel_rfl
theorem b114 (nm : List UInt8) (a : Option Addr) (m c : Nat) : PR.built 114 [(0, str nm), (1, .slice a m c)] = some [str nm, .slice a m c].toArray := by kernel_rfl
theorem el_yes {nm c : List UInt8} (h : nm = c) (hc : Im.elements.contains c = true) : Im.elements.contains nm = true := by rw [h]; exact hc
theorem el_yes' {nm c : List UInt8} (h : ¬ ¬ nm = c) (hc : Im.elements.contains c = true) : Im.elements.contains nm = true := el_yes (Decidable.not_not.1 h) hc
theorem pse_calls (p : Nat) (s : List UInt8) (i d : Nat) (acc : Bool) (w0 : World) (hp : PD p s i d acc w0) (hb : s.length ≤ 1000) (hi : i ≤ s.length) (hrng : RNG p w0) (hd : d ≤ i + 1) (grp : Nat → Option (List IS × Nat)) (hgl : GrpLe s grp (i + 1)) (hgrp : GrpI p s acc grp (i + 1)) (hlt : i < s.length) (hby : byteAt s i = 58) :
 CR PR 53 [pP p] w0 fun v w' => PPse p s d acc w0 (Im.pse s grp i) v w' := by
 have hpl := hp.lt
 have hG : Gr w0 w0 (some p) := Gr.refl _ _
 refine CR.of (n := 402) [(0, pP p)] Tryz.func53 rfl Tryz.ntmps53 rfl ⟨rfl, trivial⟩<|qr<|pr 3 rfl<|nsq<|rQ<|dR<|prq 2 rfl<|fQ fo63_1 rfl<|lQ sc3 hp rfl rfl<|prq 2 rfl<|fQ fo63_0 rfl<|lQ sc9 hp rfl rfl<|qw (fun w hw => R.lenS rfl u9) rfl<|qw (fun w hw => R.geI rfl rfl) rfl<|Wq.nil fun w hw => ?_
 have hp := hp.grN hw
 have hG := hG.trans (hw.no _)
 refine rS<|cD rfl (fun h1 => ?_) fun h1 => ?_
 ·all_goals (exfalso; omega)
 refine ksq<|rQ<|dR<|prq 2 rfl<|fQ fo63_0 rfl<|lQ sc9 hp rfl rfl<|prq 2 rfl<|fQ fo63_1 rfl<|lQ sc3 hp rfl rfl<|qw (fun w hw => R.idxS rfl rfl _ rfl om u9) rfl<|qw (fun w hw => R.neI rfl rfl) rfl<|Wq.nil fun w hw => ?_
 have hp := hp.grN hw
 have hG := hG.trans (hw.no _)
 refine rS<|cD rfl (fun h2 => ?_) fun h2 => ?_
 ·all_goals (exfalso; omega)
 refine ksqr<|pr 2 rfl<|fA fo63_1 rfl<|lD sc3 hp rfl rfl<|aK rfl rfl<|pr 1 rfl<|fA fo63_1 rfl<|sT sc3 hp rfl fun w hp hs => ?_
 have hp : Blk _ p 63 [str s, .int .i64 ((i + 1 : Nat) : Int), .int .i64 ((d : Nat) : Int), .bool acc] := hp
 have hG := hG.trans hs
 refine nsqr<|pr 1 rfl<|nsq<|rQ<|dR<|prq 2 rfl<|fQ fo63_1 rfl<|lQ sc3 hp rfl rfl<|prq 2 rfl<|fQ fo63_0 rfl<|lQ sc9 hp rfl rfl<|qw (fun w hw => R.lenS rfl u9) rfl<|qw (fun w hw => R.geI rfl rfl) rfl<|Wq.nil fun w hw => ?_
 have hp := hp.grN hw
 have hG := hG.trans (hw.no _)
 refine rS<|cD rfl (fun h3 => ?_) fun h3 => ?_
 ·refine qr<|eN en21 rfl (errNew_calls _ _) fun v w hv => ?_
  obtain ⟨⟨et, eu, rfl⟩, hv⟩ := hv
  have hp := hp.grN hv
  have hG := hG.trans (hv.no _)
  refine pr 3 rfl<|nsth<|At.res3 rfl rfl rfl rfl ?_
  have hX : Im.pse s grp i = none := by
   rw [Im.pse, if_pos om]
  rw [hX]
  exact ⟨_, _, _, _, rfl, ⟨_, _, rfl⟩, hp, hG⟩
 refine ks<|C.cut (fun l w' => ∃ must : Bool, l = [(0, pP p), (2, .nilIface), (3, str []), (5, .bool must)] ∧ PD p s (if must then i + 2 else i + 1) d acc w' ∧ Gr w0 w' (some p) ∧ must = decide (byteAt s (i + 1) = 58) ∧ i + 1 < s.length) ?_ ?_
 ·refine rQ<|dR<|prq 2 rfl<|fQ fo63_0 rfl<|lQ sc9 hp rfl rfl<|prq 2 rfl<|fQ fo63_1 rfl<|lQ sc3 hp rfl rfl<|qw (fun w hw => R.idxS rfl rfl _ rfl om u9) rfl<|qw (fun w hw => R.eqI rfl rfl) rfl<|Wq.nil fun w hw => ?_
  have hp := hp.grN hw
  have hG := hG.trans (hw.no _)
  refine rS<|cD rfl (fun h4 => ?_) fun h4 => ?_
  ·refine qr<|pr 1 rfl<|nsr<|pr 2 rfl<|fA fo63_1 rfl<|lD sc3 hp rfl rfl<|aK rfl rfl<|pr 1 rfl<|fA fo63_1 rfl<|sT sc3 hp rfl fun w hp hs => ?_
   have hp : Blk _ p 63 [str s, .int .i64 ((i + 1 + 1 : Nat) : Int), .int .i64 ((d : Nat) : Int), .bool acc] := hp
   have hG := hG.trans hs
   exact rN<|cT [(0, pP p), (2, .nilIface), (3, str []), (5, .bool true)] rfl ⟨_, rfl, hp, hG, (decide_eq_true om).symm, om⟩
  exact rK<|cT [(0, pP p), (2, .nilIface), (3, str []), (5, .bool false)] rfl ⟨_, rfl, hp, hG, (decide_eq_false om).symm, om⟩
 rintro l w ⟨must, rfl, hp, hG, hmu, hlt2⟩
 have hpi : (if must then i + 2 else i + 1) ≤ s.length := by split <;> omega
 have hpj : i + 1 ≤ (if must then i + 2 else i + 1) := by split <;> omega
 refine qr<|pr 1 rfl<|eN en62 rfl (ident_calls p s ((if must then i + 2 else i + 1)) d acc _ hp hb om) fun v w hv => ?_
 rcases hM5 : Im.ident s ((if must then i + 2 else i + 1)) with _ | ⟨x5, j5⟩
 ·rw [hM5] at hv
  obtain ⟨rr5, ee5, j5, rfl, ⟨et5, eu5, rfl⟩, hpo, hv⟩ := hv
  clear hp
  have hp := hpo
  clear hpo
  have hG := hG.trans hv
  refine pr 5 rfl<|nsq<|qr<|pr 1 rfl<|qq (R.neNilT ifc44 rfl) rfl<|ns<|cV rfl<|rT<|rH<|At.res3 rfl rfl rfl rfl ?_
  have hX : Im.pse s grp i = none := by
   rw [Im.pse, if_neg om, ← hmu]
   simp only [hM5]
  rw [hX]
  exact ⟨_, _, _, _, rfl, ⟨_, _, rfl⟩, hp, hG⟩
 rw [hM5] at hv
 obtain ⟨rfl, hpo, hv⟩ := hv
 clear hp
 have hp := hpo
 clear hpo
 have hG := hG.trans hv
 obtain ⟨hea5, heb5, hec5⟩ := Im.ident_le hM5
 refine pr 5 rfl<|nsq<|qr<|pr 1 rfl<|qq (R.neNilF ifc44 rfl) rfl<|ns<|cF rfl<|ksqr<|pr 1 rfl<|eN en63 rfl (lowerASCII_calls _ _ om) fun v w hv => ?_
 obtain ⟨rfl, hv⟩ := hv
 have hp := hp.grN hv
 have hG := hG.trans (hv.no _)
 refine pr 1 rfl<|ns<|C.cut (fun l w' => ∃ (j : Nat) (nm : List UInt8), l = [(0, pP p), (2, .nilIface), (3, str []), (4, .nilIface), (6, str nm)] ∧ PD p s j d acc w' ∧ Gr w0 w' (some p) ∧ Im.pse s grp i = Im.pseNamed s grp nm j ∧ i + 2 ≤ j ∧ j ≤ s.length ∧ nm.length ≤ 4000) ?_ ?_
 ·refine qr<|W.splitB (R.move rfl) rfl rfl rfl (fun h6 => ?_) (fun h6 => ?_)
  ·subst h6
   refine pr 2 rfl<|W.gsplit rfl (R.neS rfl rfl) rfl rfl rfl (fun h7 => ?_) (fun h7 => ?_)
   ·refine pr 2 rfl<|W.gsplit rfl (R.neS rfl rfl) rfl rfl rfl (fun h8 => ?_) (fun h8 => ?_)
    ·refine pr 3 rfl<|W.gsplit rfl (R.neS rfl rfl) rfl rfl rfl (fun h9 => ?_) (fun h9 => ?_)
     ·refine pr 3 rfl<|W.gsplit rfl (R.neS rfl rfl) rfl rfl rfl (fun h10 => ?_) (fun h10 => ?_)
      ·refine pr 3 rfl<|W.gsplit rfl (R.neS rfl rfl) rfl rfl rfl (fun h11 => ?_) (fun h11 => ?_)
       ·refine pr 3 rfl<|W.gsplit rfl (R.neS rfl rfl) rfl rfl rfl (fun h12 => ?_) (fun h12 => ?_)
        ·refine pr 3 rfl<|W.gsplit rfl (R.neS rfl rfl) rfl rfl rfl (fun h13 => ?_) (fun h13 => ?_)
         ·refine pr 3 rfl<|W.gsplit rfl (R.neS rfl rfl) rfl rfl rfl (fun h14 => ?_) (fun h14 => ?_)
          ·refine pr 3 rfl<|W.gsplit rfl (R.neS rfl rfl) rfl rfl rfl (fun h15 => ?_) (fun h15 => ?_)
           ·refine pr 3 rfl<|W.gsplit rfl (R.neS rfl rfl) rfl rfl rfl (fun h16 => ?_) (fun h16 => ?_)
            ·refine pr 3 rfl<|W.gsplit rfl (R.neS rfl rfl) rfl rfl rfl (fun h17 => ?_) (fun h17 => ?_)
             ·refine pr 2 rfl<|ns<|cV rfl<|qr<|pr 1 rfl<|eN en21 rfl (errNew_calls _ _) fun v w hv => ?_
              obtain ⟨⟨et, eu, rfl⟩, hv⟩ := hv
              have hp := hp.grN hv
              have hG := hG.trans (hv.no _)
              refine pr 3 rfl<|nsth<|At.res3 rfl rfl rfl rfl ?_
              have hel : Im.elements.contains (Sp.lower x5) = false := by
               rw [Bool.eq_false_iff]; simp only [Im.elements, List.contains_cons, List.contains_nil, ne_eq, Bool.or_eq_true, beq_iff_eq, Bool.or_false]; simp [h7, h8, h9, h10, h11, h12, h13, h14, h15, h16, h17]
              have hX : Im.pse s grp i = none := by
               rw [Im.pse, if_neg om, ← hmu]
               simp only [if_true] at hM5
               simp only [if_true, hM5, hel, Bool.true_and, Bool.not_false]
              rw [hX]
              exact ⟨_, _, _, _, rfl, ⟨_, _, rfl⟩, hp, hG⟩
             refine pr 2 rfl<|ns<|cF rfl<|rK ?_
             have hel : Im.elements.contains (Sp.lower x5) = true := by first | exact el_yes aM dC | exact el_yes' aM dC
             have hA : Im.pse s grp i = Im.pseNamed s grp (Sp.lower x5) j5 := by
              rw [Im.pse, if_neg om, ← hmu]
              simp only [if_true, Bool.false_eq_true, if_false] at hM5
              simp only [if_true, hM5, hel, Bool.true_and, Bool.not_true, Bool.false_eq_true, if_false]
             exact cT [(0, pP p), (2, .nilIface), (3, str []), (4, .nilIface), (6, str (Sp.lower x5))] rfl ⟨_, _, rfl, hp, hG, hA, om, om, by rw [Sp.lower_length]; omega⟩
            refine pr 6 rfl<|ns<|cF rfl<|rK ?_
            have hel : Im.elements.contains (Sp.lower x5) = true := by first | exact el_yes aM dC | exact el_yes' aM dC
            have hA : Im.pse s grp i = Im.pseNamed s grp (Sp.lower x5) j5 := by
             rw [Im.pse, if_neg om, ← hmu]
             simp only [if_true, Bool.false_eq_true, if_false] at hM5
             simp only [if_true, hM5, hel, Bool.true_and, Bool.not_true, Bool.false_eq_true, if_false]
            exact cT [(0, pP p), (2, .nilIface), (3, str []), (4, .nilIface), (6, str (Sp.lower x5))] rfl ⟨_, _, rfl, hp, hG, hA, om, om, by rw [Sp.lower_length]; omega⟩
           refine pr 10 rfl<|ns<|cF rfl<|rK ?_
           have hel : Im.elements.contains (Sp.lower x5) = true := by first | exact el_yes aM dC | exact el_yes' aM dC
           have hA : Im.pse s grp i = Im.pseNamed s grp (Sp.lower x5) j5 := by
            rw [Im.pse, if_neg om, ← hmu]
            simp only [if_true, Bool.false_eq_true, if_false] at hM5
            simp only [if_true, hM5, hel, Bool.true_and, Bool.not_true, Bool.false_eq_true, if_false]
           exact cT [(0, pP p), (2, .nilIface), (3, str []), (4, .nilIface), (6, str (Sp.lower x5))] rfl ⟨_, _, rfl, hp, hG, hA, om, om, by rw [Sp.lower_length]; omega⟩
          refine pr 14 rfl<|ns<|cF rfl<|rK ?_
          have hel : Im.elements.contains (Sp.lower x5) = true := by first | exact el_yes aM dC | exact el_yes' aM dC
          have hA : Im.pse s grp i = Im.pseNamed s grp (Sp.lower x5) j5 := by
           rw [Im.pse, if_neg om, ← hmu]
           simp only [if_true, Bool.false_eq_true, if_false] at hM5
           simp only [if_true, hM5, hel, Bool.true_and, Bool.not_true, Bool.false_eq_true, if_false]
          exact cT [(0, pP p), (2, .nilIface), (3, str []), (4, .nilIface), (6, str (Sp.lower x5))] rfl ⟨_, _, rfl, hp, hG, hA, om, om, by rw [Sp.lower_length]; omega⟩
         refine pr 18 rfl<|ns<|cF rfl<|rK ?_
         have hel : Im.elements.contains (Sp.lower x5) = true := by first | exact el_yes aM dC | exact el_yes' aM dC
         have hA : Im.pse s grp i = Im.pseNamed s grp (Sp.lower x5) j5 := by
          rw [Im.pse, if_neg om, ← hmu]
          simp only [if_true, Bool.false_eq_true, if_false] at hM5
          simp only [if_true, hM5, hel, Bool.true_and, Bool.not_true, Bool.false_eq_true, if_false]
         exact cT [(0, pP p), (2, .nilIface), (3, str []), (4, .nilIface), (6, str (Sp.lower x5))] rfl ⟨_, _, rfl, hp, hG, hA, om, om, by rw [Sp.lower_length]; omega⟩
        refine pr 22 rfl<|ns<|cF rfl<|rK ?_
        have hel : Im.elements.contains (Sp.lower x5) = true := by first | exact el_yes aM dC | exact el_yes' aM dC
        have hA : Im.pse s grp i = Im.pseNamed s grp (Sp.lower x5) j5 := by
         rw [Im.pse, if_neg om, ← hmu]
         simp only [if_true, Bool.false_eq_true, if_false] at hM5
         simp only [if_true, hM5, hel, Bool.true_and, Bool.not_true, Bool.false_eq_true, if_false]
        exact cT [(0, pP p), (2, .nilIface), (3, str []), (4, .nilIface), (6, str (Sp.lower x5))] rfl ⟨_, _, rfl, hp, hG, hA, om, om, by rw [Sp.lower_length]; omega⟩
       refine pr 26 rfl<|ns<|cF rfl<|rK ?_
       have hel : Im.elements.contains (Sp.lower x5) = true := by first | exact el_yes aM dC | exact el_yes' aM dC
       have hA : Im.pse s grp i = Im.pseNamed s grp (Sp.lower x5) j5 := by
        rw [Im.pse, if_neg om, ← hmu]
        simp only [if_true, Bool.false_eq_true, if_false] at hM5
        simp only [if_true, hM5, hel, Bool.true_and, Bool.not_true, Bool.false_eq_true, if_false]
       exact cT [(0, pP p), (2, .nilIface), (3, str []), (4, .nilIface), (6, str (Sp.lower x5))] rfl ⟨_, _, rfl, hp, hG, hA, om, om, by rw [Sp.lower_length]; omega⟩
      refine pr 30 rfl<|ns<|cF rfl<|rK ?_
      have hel : Im.elements.contains (Sp.lower x5) = true := by first | exact el_yes aM dC | exact el_yes' aM dC
      have hA : Im.pse s grp i = Im.pseNamed s grp (Sp.lower x5) j5 := by
       rw [Im.pse, if_neg om, ← hmu]
       simp only [if_true, Bool.false_eq_true, if_false] at hM5
       simp only [if_true, hM5, hel, Bool.true_and, Bool.not_true, Bool.false_eq_true, if_false]
      exact cT [(0, pP p), (2, .nilIface), (3, str []), (4, .nilIface), (6, str (Sp.lower x5))] rfl ⟨_, _, rfl, hp, hG, hA, om, om, by rw [Sp.lower_length]; omega⟩
     refine pr 34 rfl<|ns<|cF rfl<|rK ?_
     have hel : Im.elements.contains (Sp.lower x5) = true := by first | exact el_yes aM dC | exact el_yes' aM dC
     have hA : Im.pse s grp i = Im.pseNamed s grp (Sp.lower x5) j5 := by
      rw [Im.pse, if_neg om, ← hmu]
      simp only [if_true, Bool.false_eq_true, if_false] at hM5
      simp only [if_true, hM5, hel, Bool.true_and, Bool.not_true, Bool.false_eq_true, if_false]
     exact cT [(0, pP p), (2, .nilIface), (3, str []), (4, .nilIface), (6, str (Sp.lower x5))] rfl ⟨_, _, rfl, hp, hG, hA, om, om, by rw [Sp.lower_length]; omega⟩
    refine pr 38 rfl<|ns<|cF rfl<|rK ?_
    have hel : Im.elements.contains (Sp.lower x5) = true := by first | exact el_yes aM dC | exact el_yes' aM dC
    have hA : Im.pse s grp i = Im.pseNamed s grp (Sp.lower x5) j5 := by
     rw [Im.pse, if_neg om, ← hmu]
     simp only [if_true, Bool.false_eq_true, if_false] at hM5
     simp only [if_true, hM5, hel, Bool.true_and, Bool.not_true, Bool.false_eq_true, if_false]
    exact cT [(0, pP p), (2, .nilIface), (3, str []), (4, .nilIface), (6, str (Sp.lower x5))] rfl ⟨_, _, rfl, hp, hG, hA, om, om, by rw [Sp.lower_length]; omega⟩
   refine pr 41 rfl<|ns<|cF rfl<|rK ?_
   have hel : Im.elements.contains (Sp.lower x5) = true := by first | exact el_yes aM dC | exact el_yes' aM dC
   have hA : Im.pse s grp i = Im.pseNamed s grp (Sp.lower x5) j5 := by
    rw [Im.pse, if_neg om, ← hmu]
    simp only [if_true, Bool.false_eq_true, if_false] at hM5
    simp only [if_true, hM5, hel, Bool.true_and, Bool.not_true, Bool.false_eq_true, if_false]
   exact cT [(0, pP p), (2, .nilIface), (3, str []), (4, .nilIface), (6, str (Sp.lower x5))] rfl ⟨_, _, rfl, hp, hG, hA, om, om, by rw [Sp.lower_length]; omega⟩
  subst h6
  refine pr 44 rfl<|ns<|cF rfl<|rK ?_
  have hA : Im.pse s grp i = Im.pseNamed s grp (Sp.lower x5) j5 := by
   rw [Im.pse, if_neg om, ← hmu]
   simp only [if_true, Bool.false_eq_true, if_false] at hM5
   simp only [Bool.false_eq_true, if_false, hM5, Bool.false_and]
  exact cT [(0, pP p), (2, .nilIface), (3, str []), (4, .nilIface), (6, str (Sp.lower x5))] rfl ⟨_, _, rfl, hp, hG, hA, om, om, by rw [Sp.lower_length]; omega⟩
 rintro l w ⟨j, nm, rfl, hp, hG, hA, hij, hjl, hnl⟩
 refine qqr<|pr 1 rfl<|ns<|rO<|C.cut (fun l w' => ∃ bd : Bool, l = [(0, pP p), (2, .nilIface), (3, str []), (4, .nilIface), (6, str nm), (130, str nm), (133, .bool bd)] ∧ PD p s j d acc w' ∧ Gr w0 w' (some p) ∧ bd = decide (nm = [110, 111, 116] ∨ nm = [104, 97, 115] ∨ nm = [104, 97, 115, 99, 104, 105, 108, 100])) ?_ ?_
 ·refine qr<|qq (R.eqS rfl rfl) rfl<|pr 1 rfl<|ns<|cD rfl (fun h18 => ?_) fun h18 => ?_
  ·have h18i := h18
   rw [decide_eq_true h18i]
   refine rK ?_
   exact cT [(0, pP p), (2, .nilIface), (3, str []), (4, .nilIface), (6, str nm), (130, str nm), (133, .bool true)] rfl ⟨_, rfl, hp, hG, by rw [h18]; rfl⟩
  have h18i := h18
  rw [decide_eq_false h18i]
  refine qr<|qq (R.eqS rfl rfl) rfl<|pr 1 rfl<|ns<|cD rfl (fun h19 => ?_) fun h19 => ?_
  ·have h19i := h19
   rw [decide_eq_true h19i]
   refine rK ?_
   exact cT [(0, pP p), (2, .nilIface), (3, str []), (4, .nilIface), (6, str nm), (130, str nm), (133, .bool true)] rfl ⟨_, rfl, hp, hG, by rw [h19]; rfl⟩
  have h19i := h19
  rw [decide_eq_false h19i]
  refine rR<|qq (R.eqS rfl rfl) rfl<|pr 1 rfl<|rN ?_
  exact cT [(0, pP p), (2, .nilIface), (3, str []), (4, .nilIface), (6, str nm), (130, str nm), (133, _)] rfl ⟨_, rfl, hp, hG, by rw [Bool.eq_iff_iff, decide_eq_true_iff, decide_eq_true_iff]; simp [h18, h19]⟩
 rintro l w ⟨bd, rfl, hp, hG, hr1⟩
 refine cC rfl (fun h20 => ?_) (fun h20 => ?_)
 ·try simp only [Bool.not_eq_true', Bool.not_eq_false'] at h20
  subst h20
  refine rQ<|rQ ?_
  have hL : Im.pseNamed s grp nm j = Im.pseRel s grp nm j := by rw [Im.pseNamed, if_pos (of_decide_eq_true hr1.symm)]
  refine rR<|pr 1 rfl<|eN en66 rfl (cparen_calls p s j d acc _ hp hb om) fun v w hv => ?_
  obtain ⟨hv1, hpo, hv⟩ := hv
  clear hp
  have hG := hG.trans hv
  rcases hM21 : Im.cparen s j with _ | j21
  ·simp only [hM21, Option.isSome_none, Option.getD_none] at hv1 hpo
   subst hv1
   have hp := hpo
   clear hpo
   refine pr 1 rfl<|ns<|cV rfl<|rQ ?_
   obtain ⟨gt0, ge0, hg0⟩ := (hrng.gr hG).2 0 om
   refine dR<|prq 1 rfl<|qw (fun w hw => R.loadC sc44 rfl (World.grownBy.cell hw hg0 (by simp))) rfl<|prq 3 rfl<|Wq.nil fun w hw => ?_
   have hp := hp.grN hw
   have hG := hG.trans (hw.no _)
   refine rS<|rT<|rH<|rC<|rH<|At.res3 rfl rfl rfl rfl ?_
   have hX : Im.pse s grp i = none := by
    rw [hA, hL, Im.pseRel, hM21]
   rw [hX]
   exact ⟨_, _, _, _, rfl, ⟨_, _, rfl⟩, hp, hG⟩
  simp only [hM21, Option.isSome_some, Option.getD_some] at hv1 hpo
  subst hv1
  have hp := hpo
  clear hpo
  obtain ⟨hea21, heb21⟩ := Im.cparen_le hM21
  refine pr 1 rfl<|ns<|cF rfl<|ksqr<|pr 1 rfl<|eN en20 rfl (hgrp j21 d _ om om om hp (hrng.gr hG)) fun v w hv => ?_
  rcases hM22 : grp j21 with _ | ⟨l22, j22⟩
  ·rw [hM22] at hv
   obtain ⟨rr22, ee22, j22, rfl, ⟨et22, eu22, rfl⟩, hpo, hv⟩ := hv
   clear hp
   have hp := hpo
   clear hpo
   have hG := hG.trans hv
   refine pr 5 rfl<|nsq<|qr<|pr 1 rfl<|qq (R.neNilT ifc44 rfl) rfl<|ns<|cV rfl<|qr<|pr 5 rfl<|nsth<|rC<|rH<|At.res3 rfl rfl rfl rfl ?_
   have hX : Im.pse s grp i = none := by
    rw [hA, hL, Im.pseRel, hM21]
    simp only [hM22]
   rw [hX]
   exact ⟨_, _, _, _, rfl, ⟨_, _, rfl⟩, hp, hG⟩
  rw [hM22] at hv
  obtain ⟨vl, rfl, hS, hpo, hv⟩ := hv
  obtain ⟨va, vc, rfl⟩ := hS.slice
  have hS := hS.mono hG.size
  clear hp
  have hp := hpo
  clear hpo
  have hG := hG.trans hv
  obtain ⟨hea22, heb22⟩ := hgl _ _ _ om om hM22
  refine pr 5 rfl<|nsq<|qr<|pr 1 rfl<|qq (R.neNilF ifc44 rfl) rfl<|ns<|cF rfl<|ksq<|qr<|pr 1 rfl<|eN en67 rfl (cclose_calls p s j22 d acc _ hp hb om) fun v w hv => ?_
  obtain ⟨hv1, hpo, hv⟩ := hv
  clear hp
  have hG := hG.trans hv
  rcases hM23 : Im.cclose s j22 with _ | j23
  ·simp only [hM23, Option.isSome_none, Option.getD_none] at hv1 hpo
   subst hv1
   have hp := hpo
   clear hpo
   have hS := hS.gr hv au
   refine pr 1 rfl<|ns<|cV rfl<|rQ ?_
   obtain ⟨gt1, ge1, hg1⟩ := (hrng.gr hG).2 1 om
   refine dR<|prq 1 rfl<|qw (fun w hw => R.loadC sc44 rfl (World.grownBy.cell hw hg1 (by simp))) rfl<|prq 3 rfl<|Wq.nil fun w hw => ?_
   have hp := hp.grN hw
   have hS := hS.grN hw
   have hG := hG.trans (hw.no _)
   refine rS<|rT<|rH<|rC<|rH<|At.res3 rfl rfl rfl rfl ?_
   have hX : Im.pse s grp i = none := by
    rw [hA, hL, Im.pseRel, hM21]
    simp only [hM22, hM23]
   rw [hX]
   exact ⟨_, _, _, _, rfl, ⟨_, _, rfl⟩, hp, hG⟩
  simp only [hM23, Option.isSome_some, Option.getD_some] at hv1 hpo
  subst hv1
  have hp := hpo
  clear hpo
  obtain ⟨hea23, heb23⟩ := Im.cclose_le hM23
  have hS := hS.gr hv au
  refine pr 1 rfl<|ns<|cF rfl<|ks<|rR<|pr 2 rfl<|qq (R.build (vs := [str nm, .slice va l22.length vc]) (ps := [(0, str nm), (1, .slice va l22.length vc)]) (fun a ha => by simp [ha.ev (x := .tmp 156) rfl, ha.ev (x := .tmp 157) rfl]) (b114 nm va _ vc)) rfl<|qq (R.mkI rfl mi114) rfl<|pr 1 rfl<|nbs<|rT<|At.res3 rfl rfl rfl rfl ?_
  have hX : Im.pse s grp i = some (some (.rel nm l22), [], j23) := by
   rw [hA, hL, Im.pseRel, hM21]
   simp only [hM22, hM23]
  rw [hX]
  exact ⟨_, rfl, hS.rel nm, hp, hG⟩
 try simp only [Bool.not_eq_true', Bool.not_eq_false'] at h20
 subst h20
 refine C.cut (fun l w' => ∃ bd : Bool, l = [(0, pP p), (2, .nilIface), (3, str []), (4, .nilIface), (6, str nm), (130, str nm), (160, .bool bd)] ∧ PD p s j d acc w' ∧ Gr w0 w' (some p) ∧ bd = decide (nm = [99, 111, 110, 116, 97, 105, 110, 115] ∨ nm = [99, 111, 110, 116, 97, 105, 110, 115, 111, 119, 110])) ?_ ?_
 ·refine qr<|qq (R.eqS rfl rfl) rfl<|pr 1 rfl<|ns<|cD rfl (fun h24 => ?_) fun h24 => ?_
  ·have h24i := h24
   rw [decide_eq_true h24i]
   refine rK ?_
   exact cT [(0, pP p), (2, .nilIface), (3, str []), (4, .nilIface), (6, str nm), (130, str nm), (160, .bool true)] rfl ⟨_, rfl, hp, hG, by rw [h24]; rfl⟩
  have h24i := h24
  rw [decide_eq_false h24i]
  refine rR<|qq (R.eqS rfl rfl) rfl<|pr 1 rfl<|rN ?_
  exact cT [(0, pP p), (2, .nilIface), (3, str []), (4, .nilIface), (6, str nm), (130, str nm), (160, _)] rfl ⟨_, rfl, hp, hG, by rw [Bool.eq_iff_iff, decide_eq_true_iff, decide_eq_true_iff]; simp [h24]⟩
 rintro l w ⟨bd, rfl, hp, hG, hr2⟩
 refine cC rfl (fun h25 => ?_) (fun h25 => ?_)
 ·try simp only [Bool.not_eq_true', Bool.not_eq_false'] at h25
  subst h25
  refine rQ<|rQ ?_
  have hL : Im.pseNamed s grp nm j = Im.pseContains s (decide (nm = [99, 111, 110, 116, 97, 105, 110, 115, 111, 119, 110])) j := by rw [Im.pseNamed, if_neg (of_decide_eq_false hr1.symm), if_pos (of_decide_eq_true hr2.symm)]
  refine rR<|pr 1 rfl<|eN en66 rfl (cparen_calls p s j d acc _ hp hb om) fun v w hv => ?_
  obtain ⟨hv1, hpo, hv⟩ := hv
  clear hp
  have hG := hG.trans hv
  rcases hM26 : Im.cparen s j with _ | j26
  ·simp only [hM26, Option.isSome_none, Option.getD_none] at hv1 hpo
   subst hv1
   have hp := hpo
   clear hpo
   refine pr 1 rfl<|ns<|cV rfl<|rQ ?_
   obtain ⟨gt0, ge0, hg0⟩ := (hrng.gr hG).2 0 om
   refine dR<|prq 1 rfl<|qw (fun w hw => R.loadC sc44 rfl (World.grownBy.cell hw hg0 (by simp))) rfl<|prq 3 rfl<|Wq.nil fun w hw => ?_
   have hp := hp.grN hw
   have hG := hG.trans (hw.no _)
   refine rS<|rT<|rH<|rC<|rH<|At.res3 rfl rfl rfl rfl ?_
   have hX : Im.pse s grp i = none := by
    rw [hA, hL, Im.pseContains, hM26]
   rw [hX]
   exact ⟨_, _, _, _, rfl, ⟨_, _, rfl⟩, hp, hG⟩
  simp only [hM26, Option.isSome_some, Option.getD_some] at hv1 hpo
  subst hv1
  have hp := hpo
  clear hpo
  obtain ⟨hea26, heb26⟩ := Im.cparen_le hM26
  refine pr 1 rfl<|ns<|cF rfl<|ksq<|rQ<|dR<|prq 2 rfl<|fQ fo63_1 rfl<|lQ sc3 hp rfl rfl<|prq 2 rfl<|fQ fo63_0 rfl<|lQ sc9 hp rfl rfl<|qw (fun w hw => R.lenS rfl u9) rfl<|qw (fun w hw => R.eqI rfl rfl) rfl<|Wq.nil fun w hw => ?_
  have hp := hp.grN hw
  have hG := hG.trans (hw.no _)
  refine rS<|cD rfl (fun h27 => ?_) fun h27 => ?_
  ·refine rQ ?_
   obtain ⟨gt2, ge2, hg2⟩ := (hrng.gr hG).2 2 om
   refine dR<|prq 1 rfl<|qw (fun w hw => R.loadC sc44 rfl (World.grownBy.cell hw hg2 (by simp))) rfl<|prq 3 rfl<|Wq.nil fun w hw => ?_
   have hp := hp.grN hw
   have hG := hG.trans (hw.no _)
   refine rS<|rT<|rH<|rC<|rH<|At.res3 rfl rfl rfl rfl ?_
   have hX : Im.pse s grp i = none := by
    rw [hA, hL, Im.pseContains, hM26]
    simp only []
    rw [if_pos om]
   rw [hX]
   exact ⟨_, _, _, _, rfl, ⟨_, _, rfl⟩, hp, hG⟩
  refine ksqr<|pr 1 rfl<|ns<|C.cut (fun l w' => ∃ (v9 v4 : Value) (jj : Nat), l = [(0, pP p), (2, .nilIface), (3, str []), (6, str nm), (130, str nm), (160, .bool true), (9, v9), (4, v4)] ∧ PD p s jj d acc w' ∧ Gr w0 w' (some p) ∧ (ErrV v4 ∧ Im.word s j26 = none ∨ ∃ x : List UInt8, v9 = str x ∧ v4 = .nilIface ∧ Im.word s j26 = some (x, jj) ∧ jj ≤ s.length ∧ j26 ≤ jj ∧ x.length ≤ 4000)) ?_ ?_
  ·refine rQ<|dR<|prq 2 rfl<|fQ fo63_0 rfl<|lQ sc9 hp rfl rfl<|prq 2 rfl<|fQ fo63_1 rfl<|lQ sc3 hp rfl rfl<|qw (fun w hw => R.idxS rfl rfl _ rfl om u9) rfl<|Wq.nil fun w hw => ?_
   have hp := hp.grN hw
   have hG := hG.trans (hw.no _)
   refine rS<|rO<|qqr<|qq (R.eqI rfl rfl) rfl<|pr 1 rfl<|ns<|cD rfl (fun h28 => ?_) fun h28 => ?_
   ·have h28i := h28
    rw [decide_eq_true h28i]
    refine ks<|cV rfl<|rR<|pr 1 rfl<|eN en65 rfl (imString_calls p s j26 d acc _ hp hb om) fun v w hv => ?_
    rcases hM29 : Im.string s j26 with _ | ⟨x29, j29⟩
    ·rw [hM29] at hv
     obtain ⟨rr29, ee29, j29, rfl, ⟨et29, eu29, rfl⟩, hpo, hv⟩ := hv
     clear hp
     have hp := hpo
     clear hpo
     have hG := hG.trans hv
     refine pr 5 rfl<|nB ?_
     exact cT [(0, pP p), (2, .nilIface), (3, str []), (6, str nm), (130, str nm), (160, .bool true), (9, _), (4, _)] rfl ⟨_, _, j29, rfl, hp, hG, .inl ⟨⟨_, _, rfl⟩, by rw [Im.word, if_pos om, hM29]⟩⟩
    rw [hM29] at hv
    obtain ⟨rfl, hpo, hv⟩ := hv
    clear hp
    have hp := hpo
    clear hpo
    have hG := hG.trans hv
    obtain ⟨hea29, heb29, hec29⟩ := Im.string_le hM29
    refine pr 5 rfl<|nB ?_
    exact cT [(0, pP p), (2, .nilIface), (3, str []), (6, str nm), (130, str nm), (160, .bool true), (9, str x29), (4, .nilIface)] rfl ⟨_, _, j29, rfl, hp, hG, .inr ⟨_, rfl, rfl, by rw [Im.word, if_pos om, hM29], om, om, om⟩⟩
   have h28i := h28
   rw [decide_eq_false h28i]
   refine rR<|qq (R.eqI rfl rfl) rfl<|pr 1 rfl<|ns<|cD rfl (fun h30 => ?_) fun h30 => ?_
   ·have h30i := h30
    rw [decide_eq_true h30i]
    refine rR<|pr 1 rfl<|eN en65 rfl (imString_calls p s j26 d acc _ hp hb om) fun v w hv => ?_
    rcases hM31 : Im.string s j26 with _ | ⟨x31, j31⟩
    ·rw [hM31] at hv
     obtain ⟨rr31, ee31, j31, rfl, ⟨et31, eu31, rfl⟩, hpo, hv⟩ := hv
     clear hp
     have hp := hpo
     clear hpo
     have hG := hG.trans hv
     refine pr 5 rfl<|nB ?_
     exact cT [(0, pP p), (2, .nilIface), (3, str []), (6, str nm), (130, str nm), (160, .bool true), (9, _), (4, _)] rfl ⟨_, _, j31, rfl, hp, hG, .inl ⟨⟨_, _, rfl⟩, by rw [Im.word, if_pos om, hM31]⟩⟩
    rw [hM31] at hv
    obtain ⟨rfl, hpo, hv⟩ := hv
    clear hp
    have hp := hpo
    clear hpo
    have hG := hG.trans hv
    obtain ⟨hea31, heb31, hec31⟩ := Im.string_le hM31
    refine pr 5 rfl<|nB ?_
    exact cT [(0, pP p), (2, .nilIface), (3, str []), (6, str nm), (130, str nm), (160, .bool true), (9, str x31), (4, .nilIface)] rfl ⟨_, _, j31, rfl, hp, hG, .inr ⟨_, rfl, rfl, by rw [Im.word, if_pos om, hM31], om, om, om⟩⟩
   have h30i := h30
   rw [decide_eq_false h30i]
   refine rR<|pr 1 rfl<|eN en62 rfl (ident_calls p s j26 d acc _ hp hb om) fun v w hv => ?_
   rcases hM32 : Im.ident s j26 with _ | ⟨x32, j32⟩
   ·rw [hM32] at hv
    obtain ⟨rr32, ee32, j32, rfl, ⟨et32, eu32, rfl⟩, hpo, hv⟩ := hv
    clear hp
    have hp := hpo
    clear hpo
    have hG := hG.trans hv
    refine pr 5 rfl<|nB ?_
    exact cT [(0, pP p), (2, .nilIface), (3, str []), (6, str nm), (130, str nm), (160, .bool true), (9, _), (4, _)] rfl ⟨_, _, j32, rfl, hp, hG, .inl ⟨⟨_, _, rfl⟩, by rw [Im.word, if_neg om, hM32]⟩⟩
   rw [hM32] at hv
   obtain ⟨rfl, hpo, hv⟩ := hv
   clear hp
   have hp := hpo
   clear hpo
   have hG := hG.trans hv
   obtain ⟨hea32, heb32, hec32⟩ := Im.ident_le hM32
   refine pr 5 rfl<|nB ?_
   exact cT [(0, pP p), (2, .nilIface), (3, str []), (6, str nm), (130, str nm), (160, .bool true), (9, str x32), (4, .nilIface)] rfl ⟨_, _, j32, rfl, hp, hG, .inr ⟨_, rfl, rfl, by rw [Im.word, if_neg om, hM32], om, om, om⟩⟩
  rintro l w ⟨v9, v4, jj, rfl, hp, hG, hwd⟩
  refine rQ<|rQ ?_
  rcases hwd with ⟨⟨et, eu, rfl⟩, hwd⟩ | ⟨x, rfl, rfl, hwd, hjjl, hjjp, hxl⟩
  ·refine rR<|pr 1 rfl<|qq (R.neNilT ifc44 rfl) rfl<|ns<|cV rfl<|qr<|pr 5 rfl<|nsth<|rC<|rH<|At.res3 rfl rfl rfl rfl ?_
   have hX : Im.pse s grp i = none := by
    rw [hA, hL, Im.pseContains, hM26]
    simp only []
    rw [if_neg om, hwd]
   rw [hX]
   exact ⟨_, _, _, _, rfl, ⟨_, _, rfl⟩, hp, hG⟩
  refine rR<|pr 1 rfl<|qq (R.neNilF ifc44 rfl) rfl<|ns<|cF rfl<|ksqr<|pr 1 rfl<|eN en68 rfl (zzLower_calls _ _ om) fun v w hv => ?_
  obtain ⟨rfl, hv⟩ := hv
  have hp := hp.grN hv
  have hG := hG.trans (hv.no _)
  refine pr 1 rfl<|nsqr<|pr 1 rfl<|eN en38 rfl (ws_calls p s jj d acc _ hp hb om) fun v w hv => ?_
  obtain ⟨hv1, hpo, hv⟩ := hv
  obtain ⟨hwa33, hwb33⟩ := Im.ws_le s jj
  have hwb33 := hwb33 om
  clear hp
  generalize hj33 : Im.ws s jj = j33 at hv1 hpo hwa33 hwb33
  have hp := hpo
  clear hpo
  subst hv1
  have hG := hG.trans hv
  refine nsq<|rQ<|dR<|prq 2 rfl<|fQ fo63_1 rfl<|lQ sc3 hp rfl rfl<|prq 2 rfl<|fQ fo63_0 rfl<|lQ sc9 hp rfl rfl<|qw (fun w hw => R.lenS rfl u9) rfl<|qw (fun w hw => R.geI rfl rfl) rfl<|Wq.nil fun w hw => ?_
  have hp := hp.grN hw
  have hG := hG.trans (hw.no _)
  refine rS<|cD rfl (fun h34 => ?_) fun h34 => ?_
  ·refine qr<|pr 1 rfl<|eN en21 rfl (errNew_calls _ _) fun v w hv => ?_
   obtain ⟨⟨et, eu, rfl⟩, hv⟩ := hv
   have hp := hp.grN hv
   have hG := hG.trans (hv.no _)
   refine pr 3 rfl<|nsth<|rC<|rH<|At.res3 rfl rfl rfl rfl ?_
   have hX : Im.pse s grp i = none := by
    rw [hA, hL, Im.pseContains, hM26]
    simp only []
    rw [if_neg om, hwd]
    simp only []
    rw [hj33, if_pos om]
   rw [hX]
   exact ⟨_, _, _, _, rfl, ⟨_, _, rfl⟩, hp, hG⟩
  refine ksq<|qr<|pr 1 rfl<|eN en67 rfl (cclose_calls p s j33 d acc _ hp hb om) fun v w hv => ?_
  obtain ⟨hv1, hpo, hv⟩ := hv
  clear hp
  have hG := hG.trans hv
  rcases hM35 : Im.cclose s j33 with _ | j35
  ·simp only [hM35, Option.isSome_none, Option.getD_none] at hv1 hpo
   subst hv1
   have hp := hpo
   clear hpo
   refine pr 1 rfl<|ns<|cV rfl<|rQ ?_
   obtain ⟨gt1, ge1, hg1⟩ := (hrng.gr hG).2 1 om
   refine dR<|prq 1 rfl<|qw (fun w hw => R.loadC sc44 rfl (World.grownBy.cell hw hg1 (by simp))) rfl<|prq 3 rfl<|Wq.nil fun w hw => ?_
   have hp := hp.grN hw
   have hG := hG.trans (hw.no _)
   refine rS<|rT<|rH<|rC<|rH<|At.res3 rfl rfl rfl rfl ?_
   have hX : Im.pse s grp i = none := by
    rw [hA, hL, Im.pseContains, hM26]
    simp only []
    rw [if_neg om, hwd]
    simp only []
    rw [hj33, if_neg om, hM35]
   rw [hX]
   exact ⟨_, _, _, _, rfl, ⟨_, _, rfl⟩, hp, hG⟩
  simp only [hM35, Option.isSome_some, Option.getD_some] at hv1 hpo
  subst hv1
  have hp := hpo
  clear hpo
  obtain ⟨hea35, heb35⟩ := Im.cclose_le hM35
  refine pr 1 rfl<|ns<|cF rfl<|ks<|rR<|pr 1 rfl<|qq (R.eqS rfl rfl) rfl<|pr 1 rfl<|qq (R.build (vs := [str (Sp.lower x), .bool (decide (nm = [99, 111, 110, 116, 97, 105, 110, 115, 111, 119, 110]))]) (ps := [(2, .bool (decide (nm = [99, 111, 110, 116, 97, 105, 110, 115, 111, 119, 110]))), (1, str (Sp.lower x))]) (fun a ha => by simp [ha.ev (x := .tmp 228) rfl, ha.ev (x := .tmp 229) rfl]) kR) rfl<|qq (R.mkI rfl mi118) rfl<|pr 1 rfl<|nbs<|rT<|At.res3 rfl rfl rfl rfl ?_
  have hX : Im.pse s grp i = some (some (.contains (Sp.lower x) (decide (nm = [99, 111, 110, 116, 97, 105, 110, 115, 111, 119, 110]))), [], j35) := by
   rw [hA, hL, Im.pseContains, hM26]
   simp only []
   rw [if_neg om, hwd]
   simp only []
   rw [hj33, if_neg om, hM35]
  rw [hX]
  exact ⟨_, rfl, by rw [Rep], hp, hG⟩
 try simp only [Bool.not_eq_true', Bool.not_eq_false'] at h25
 subst h25
 refine C.cut (fun l w' => ∃ bd : Bool, l = [(0, pP p), (2, .nilIface), (3, str []), (4, .nilIface), (6, str nm), (130, str nm), (232, .bool bd)] ∧ PD p s j d acc w' ∧ Gr w0 w' (some p) ∧ bd = decide (nm = [110, 116, 104, 45, 99, 104, 105, 108, 100] ∨ nm = [110, 116, 104, 45, 108, 97, 115, 116, 45, 99, 104, 105, 108, 100] ∨ nm = [110, 116, 104, 45, 111, 102, 45, 116, 121, 112, 101] ∨ nm = [110, 116, 104, 45, 108, 97, 115, 116, 45, 111, 102, 45, 116, 121, 112, 101])) ?_ ?_
 ·refine qr<|qq (R.eqS rfl rfl) rfl<|pr 1 rfl<|ns<|cD rfl (fun h36 => ?_) fun h36 => ?_
  ·have h36i := h36
   rw [decide_eq_true h36i]
   refine rK ?_
   exact cT [(0, pP p), (2, .nilIface), (3, str []), (4, .nilIface), (6, str nm), (130, str nm), (232, .bool true)] rfl ⟨_, rfl, hp, hG, by rw [h36]; rfl⟩
  have h36i := h36
  rw [decide_eq_false h36i]
  refine qr<|qq (R.eqS rfl rfl) rfl<|pr 1 rfl<|ns<|cD rfl (fun h37 => ?_) fun h37 => ?_
  ·have h37i := h37
   rw [decide_eq_true h37i]
   refine rK ?_
   exact cT [(0, pP p), (2, .nilIface), (3, str []), (4, .nilIface), (6, str nm), (130, str nm), (232, .bool true)] rfl ⟨_, rfl, hp, hG, by rw [h37]; rfl⟩
  have h37i := h37
  rw [decide_eq_false h37i]
  refine qr<|qq (R.eqS rfl rfl) rfl<|pr 1 rfl<|ns<|cD rfl (fun h38 => ?_) fun h38 => ?_
  ·have h38i := h38
   rw [decide_eq_true h38i]
   refine rK ?_
   exact cT [(0, pP p), (2, .nilIface), (3, str []), (4, .nilIface), (6, str nm), (130, str nm), (232, .bool true)] rfl ⟨_, rfl, hp, hG, by rw [h38]; rfl⟩
  have h38i := h38
  rw [decide_eq_false h38i]
  refine rR<|qq (R.eqS rfl rfl) rfl<|pr 1 rfl<|rN ?_
  exact cT [(0, pP p), (2, .nilIface), (3, str []), (4, .nilIface), (6, str nm), (130, str nm), (232, _)] rfl ⟨_, rfl, hp, hG, by rw [Bool.eq_iff_iff, decide_eq_true_iff, decide_eq_true_iff]; simp [h36, h37, h38]⟩
 rintro l w ⟨bd, rfl, hp, hG, hr3⟩
 refine cC rfl (fun h39 => ?_) (fun h39 => ?_)
 ·try simp only [Bool.not_eq_true', Bool.not_eq_false'] at h39
  subst h39
  refine rQ<|rQ ?_
  have hL : Im.pseNamed s grp nm j = Im.pseNth s (decide (nm = [110, 116, 104, 45, 108, 97, 115, 116, 45, 99, 104, 105, 108, 100] ∨ nm = [110, 116, 104, 45, 108, 97, 115, 116, 45, 111, 102, 45, 116, 121, 112, 101])) (decide (nm = [110, 116, 104, 45, 111, 102, 45, 116, 121, 112, 101] ∨ nm = [110, 116, 104, 45, 108, 97, 115, 116, 45, 111, 102, 45, 116, 121, 112, 101])) j := by rw [Im.pseNamed, if_neg (of_decide_eq_false hr1.symm), if_neg (of_decide_eq_false hr2.symm), if_pos (of_decide_eq_true hr3.symm)]
  refine rR<|pr 1 rfl<|eN en66 rfl (cparen_calls p s j d acc _ hp hb om) fun v w hv => ?_
  obtain ⟨hv1, hpo, hv⟩ := hv
  clear hp
  have hG := hG.trans hv
  rcases hM40 : Im.cparen s j with _ | j40
  ·simp only [hM40, Option.isSome_none, Option.getD_none] at hv1 hpo
   subst hv1
   have hp := hpo
   clear hpo
   refine pr 1 rfl<|ns<|cV rfl<|rQ ?_
   obtain ⟨gt0, ge0, hg0⟩ := (hrng.gr hG).2 0 om
   refine dR<|prq 1 rfl<|qw (fun w hw => R.loadC sc44 rfl (World.grownBy.cell hw hg0 (by simp))) rfl<|prq 3 rfl<|Wq.nil fun w hw => ?_
   have hp := hp.grN hw
   have hG := hG.trans (hw.no _)
   refine rS<|rT<|rH<|rC<|rH<|At.res3 rfl rfl rfl rfl ?_
   have hX : Im.pse s grp i = none := by
    rw [hA, hL, Im.pseNth, hM40]
   rw [hX]
   exact ⟨_, _, _, _, rfl, ⟨_, _, rfl⟩, hp, hG⟩
  simp only [hM40, Option.isSome_some, Option.getD_some] at hv1 hpo
  subst hv1
  have hp := hpo
  clear hpo
  obtain ⟨hea40, heb40⟩ := Im.cparen_le hM40
  refine pr 1 rfl<|ns<|cF rfl<|ksqr<|pr 1 rfl<|eN en69 rfl (nth_calls p s j40 d acc _ hp hb om (hrng.gr hG)) fun v w hv => ?_
  rcases hM41 : Im.nth s j40 with _ | ⟨a41, b41, j41⟩
  ·rw [hM41] at hv
   obtain ⟨rr41, rq41, ee41, j41, rfl, ⟨et41, eu41, rfl⟩, hpo, hv⟩ := hv
   clear hp
   have hp := hpo
   clear hpo
   have hG := hG.trans hv
   refine pr 7 rfl<|nsq<|qr<|pr 1 rfl<|qq (R.neNilT ifc44 rfl) rfl<|ns<|cV rfl<|qr<|pr 5 rfl<|nsth<|rC<|rH<|At.res3 rfl rfl rfl rfl ?_
   have hX : Im.pse s grp i = none := by
    rw [hA, hL, Im.pseNth, hM40]
    simp only [hM41]
   rw [hX]
   exact ⟨_, _, _, _, rfl, ⟨_, _, rfl⟩, hp, hG⟩
  rw [hM41] at hv
  obtain ⟨rfl, hpo, hv⟩ := hv
  clear hp
  have hp := hpo
  clear hpo
  have hG := hG.trans hv
  obtain ⟨hea41, heb41, -, -⟩ := Im.nth_le om hM41
  refine pr 7 rfl<|nsq<|qr<|pr 1 rfl<|qq (R.neNilF ifc44 rfl) rfl<|ns<|cF rfl<|ksq<|qr<|pr 1 rfl<|eN en67 rfl (cclose_calls p s j41 d acc _ hp hb om) fun v w hv => ?_
  obtain ⟨hv1, hpo, hv⟩ := hv
  clear hp
  have hG := hG.trans hv
  rcases hM42 : Im.cclose s j41 with _ | j42
  ·simp only [hM42, Option.isSome_none, Option.getD_none] at hv1 hpo
   subst hv1
   have hp := hpo
   clear hpo
   refine pr 1 rfl<|ns<|cV rfl<|rQ ?_
   obtain ⟨gt1, ge1, hg1⟩ := (hrng.gr hG).2 1 om
   refine dR<|prq 1 rfl<|qw (fun w hw => R.loadC sc44 rfl (World.grownBy.cell hw hg1 (by simp))) rfl<|prq 3 rfl<|Wq.nil fun w hw => ?_
   have hp := hp.grN hw
   have hG := hG.trans (hw.no _)
   refine rS<|rT<|rH<|rC<|rH<|At.res3 rfl rfl rfl rfl ?_
   have hX : Im.pse s grp i = none := by
    rw [hA, hL, Im.pseNth, hM40]
    simp only [hM41, hM42]
   rw [hX]
   exact ⟨_, _, _, _, rfl, ⟨_, _, rfl⟩, hp, hG⟩
  simp only [hM42, Option.isSome_some, Option.getD_some] at hv1 hpo
  subst hv1
  have hp := hpo
  clear hpo
  obtain ⟨hea42, heb42⟩ := Im.cclose_le hM42
  refine pr 1 rfl<|ns<|cF rfl<|ksqr<|pr 1 rfl<|W.split (R.eqS rfl rfl) rfl rfl rfl (fun h43 => ?_) (fun h43 => ?_)
  ·refine pr 5 rfl<|nsqr<|pr 1 rfl<|W.split (R.eqS rfl rfl) rfl rfl rfl (fun h44 => ?_) (fun h44 => ?_)
   ·refine pr 5 rfl<|nsr<|pr 4 rfl<|qq (R.build (vs := [.int .i64 a41, .int .i64 b41, .bool true, .bool true]) (ps := [(1, .int .i64 a41), (2, .int .i64 b41), (3, .bool true), (4, .bool true)]) (fun a ha => by simp [ha.ev (x := .tmp 269) rfl, ha.ev (x := .tmp 270) rfl, ha.ev (x := .tmp 271) rfl, ha.ev (x := .tmp 272) rfl]) kR) rfl<|qq (R.mkI rfl mi122) rfl<|pr 1 rfl<|nbs<|rT ?_
    exact absurd (h43.symm.trans h44) dC
   refine pr 2 rfl<|gg (R.eqS rfl rfl) rfl<|pr 2 rfl<|nsr<|pr 4 rfl<|qq (R.build (vs := [.int .i64 a41, .int .i64 b41, .bool true, .bool (decide (nm = [110, 116, 104, 45, 108, 97, 115, 116, 45, 111, 102, 45, 116, 121, 112, 101]))]) (ps := [(1, .int .i64 a41), (2, .int .i64 b41), (3, .bool true), (4, .bool (decide (nm = [110, 116, 104, 45, 108, 97, 115, 116, 45, 111, 102, 45, 116, 121, 112, 101])))]) (fun a ha => by simp [ha.ev (x := .tmp 269) rfl, ha.ev (x := .tmp 270) rfl, ha.ev (x := .tmp 271) rfl, ha.ev (x := .tmp 272) rfl]) kR) rfl<|qq (R.mkI rfl mi122) rfl<|pr 1 rfl<|nbs<|rT<|At.res3 rfl rfl rfl rfl ?_
   have hX : Im.pse s grp i = some (some (.nth a41 b41 (true) ((decide (nm = [110, 116, 104, 45, 108, 97, 115, 116, 45, 111, 102, 45, 116, 121, 112, 101])))), [], j42) := by
    rw [hA, hL, Im.pseNth, hM40]
    simp only [hM41, hM42]
    rw [show (decide (nm = [110, 116, 104, 45, 108, 97, 115, 116, 45, 99, 104, 105, 108, 100] ∨ nm = [110, 116, 104, 45, 108, 97, 115, 116, 45, 111, 102, 45, 116, 121, 112, 101])) = true from by rw [Bool.eq_iff_iff]; simp [h43, h44], show (decide (nm = [110, 116, 104, 45, 111, 102, 45, 116, 121, 112, 101] ∨ nm = [110, 116, 104, 45, 108, 97, 115, 116, 45, 111, 102, 45, 116, 121, 112, 101])) = (decide (nm = [110, 116, 104, 45, 108, 97, 115, 116, 45, 111, 102, 45, 116, 121, 112, 101])) from by rw [Bool.eq_iff_iff]; simp [h43, h44]]
   rw [hX]
   exact ⟨_, rfl, by rw [Rep], hp, hG⟩
  refine pr 2 rfl<|gg (R.eqS rfl rfl) rfl<|pr 2 rfl<|nsqr<|pr 1 rfl<|W.split (R.eqS rfl rfl) rfl rfl rfl (fun h45 => ?_) (fun h45 => ?_)
  ·refine pr 5 rfl<|nsr<|pr 4 rfl<|qq (R.build (vs := [.int .i64 a41, .int .i64 b41, .bool (decide (nm = [110, 116, 104, 45, 108, 97, 115, 116, 45, 111, 102, 45, 116, 121, 112, 101])), .bool true]) (ps := [(1, .int .i64 a41), (2, .int .i64 b41), (3, .bool (decide (nm = [110, 116, 104, 45, 108, 97, 115, 116, 45, 111, 102, 45, 116, 121, 112, 101]))), (4, .bool true)]) (fun a ha => by simp [ha.ev (x := .tmp 269) rfl, ha.ev (x := .tmp 270) rfl, ha.ev (x := .tmp 271) rfl, ha.ev (x := .tmp 272) rfl]) kR) rfl<|qq (R.mkI rfl mi122) rfl<|pr 1 rfl<|nbs<|rT<|At.res3 rfl rfl rfl rfl ?_
   have hX : Im.pse s grp i = some (some (.nth a41 b41 ((decide (nm = [110, 116, 104, 45, 108, 97, 115, 116, 45, 111, 102, 45, 116, 121, 112, 101]))) (true)), [], j42) := by
    rw [hA, hL, Im.pseNth, hM40]
    simp only [hM41, hM42]
    rw [show (decide (nm = [110, 116, 104, 45, 108, 97, 115, 116, 45, 99, 104, 105, 108, 100] ∨ nm = [110, 116, 104, 45, 108, 97, 115, 116, 45, 111, 102, 45, 116, 121, 112, 101])) = (decide (nm = [110, 116, 104, 45, 108, 97, 115, 116, 45, 111, 102, 45, 116, 121, 112, 101])) from by rw [Bool.eq_iff_iff]; simp [h43, h45], show (decide (nm = [110, 116, 104, 45, 111, 102, 45, 116, 121, 112, 101] ∨ nm = [110, 116, 104, 45, 108, 97, 115, 116, 45, 111, 102, 45, 116, 121, 112, 101])) = true from by rw [Bool.eq_iff_iff]; simp [h43, h45]]
   rw [hX]
   exact ⟨_, rfl, by rw [Rep], hp, hG⟩
  refine pr 2 rfl<|gg (R.eqS rfl rfl) rfl<|pr 2 rfl<|nsr<|pr 4 rfl<|qq (R.build (vs := [.int .i64 a41, .int .i64 b41, .bool (decide (nm = [110, 116, 104, 45, 108, 97, 115, 116, 45, 111, 102, 45, 116, 121, 112, 101])), .bool (decide (nm = [110, 116, 104, 45, 108, 97, 115, 116, 45, 111, 102, 45, 116, 121, 112, 101]))]) (ps := [(1, .int .i64 a41), (2, .int .i64 b41), (3, .bool (decide (nm = [110, 116, 104, 45, 108, 97, 115, 116, 45, 111, 102, 45, 116, 121, 112, 101]))), (4, .bool (decide (nm = [110, 116, 104, 45, 108, 97, 115, 116, 45, 111, 102, 45, 116, 121, 112, 101])))]) (fun a ha => by simp [ha.ev (x := .tmp 269) rfl, ha.ev (x := .tmp 270) rfl, ha.ev (x := .tmp 271) rfl, ha.ev (x := .tmp 272) rfl]) kR) rfl<|qq (R.mkI rfl mi122) rfl<|pr 1 rfl<|nbs<|rT<|At.res3 rfl rfl rfl rfl ?_
  have hX : Im.pse s grp i = some (some (.nth a41 b41 ((decide (nm = [110, 116, 104, 45, 108, 97, 115, 116, 45, 111, 102, 45, 116, 121, 112, 101]))) ((decide (nm = [110, 116, 104, 45, 108, 97, 115, 116, 45, 111, 102, 45, 116, 121, 112, 101])))), [], j42) := by
   rw [hA, hL, Im.pseNth, hM40]
   simp only [hM41, hM42]
   rw [show (decide (nm = [110, 116, 104, 45, 108, 97, 115, 116, 45, 99, 104, 105, 108, 100] ∨ nm = [110, 116, 104, 45, 108, 97, 115, 116, 45, 111, 102, 45, 116, 121, 112, 101])) = (decide (nm = [110, 116, 104, 45, 108, 97, 115, 116, 45, 111, 102, 45, 116, 121, 112, 101])) from by rw [Bool.eq_iff_iff]; simp [h43, h45], show (decide (nm = [110, 116, 104, 45, 111, 102, 45, 116, 121, 112, 101] ∨ nm = [110, 116, 104, 45, 108, 97, 115, 116, 45, 111, 102, 45, 116, 121, 112, 101])) = (decide (nm = [110, 116, 104, 45, 108, 97, 115, 116, 45, 111, 102, 45, 116, 121, 112, 101])) from by rw [Bool.eq_iff_iff]; simp [h43, h45]]
  rw [hX]
  exact ⟨_, rfl, by rw [Rep], hp, hG⟩
 try simp only [Bool.not_eq_true', Bool.not_eq_false'] at h39
 subst h39
 refine qr<|qq (R.eqS rfl rfl) rfl<|pr 1 rfl<|ns<|cD rfl (fun h46 => ?_) fun h46 => ?_
 ·refine rR<|qq (R.build (vs := [.int .i64 0, .int .i64 1, .bool false, .bool false]) (ps := [(1, .int .i64 0), (2, .int .i64 1), (4, .bool false), (3, .bool false)]) (fun a ha => by simp [Act.eval]) kR) rfl<|qq (R.mkI rfl mi122) rfl<|pr 1 rfl<|nbs<|rT<|At.res3 rfl rfl rfl rfl ?_
  have hX : Im.pse s grp i = some (some (.nth 0 1 false false), [], j) := by
   rw [hA, h46]; rfl
  rw [hX]
  exact ⟨_, rfl, by rw [Rep], hp, hG⟩
 refine qr<|qq (R.eqS rfl rfl) rfl<|pr 1 rfl<|ns<|cD rfl (fun h47 => ?_) fun h47 => ?_
 ·refine rR<|qq (R.build (vs := [.int .i64 0, .int .i64 1, .bool true, .bool false]) (ps := [(1, .int .i64 0), (2, .int .i64 1), (4, .bool false), (3, .bool true)]) (fun a ha => by simp [Act.eval]) kR) rfl<|qq (R.mkI rfl mi122) rfl<|pr 1 rfl<|nbs<|rT<|At.res3 rfl rfl rfl rfl ?_
  have hX : Im.pse s grp i = some (some (.nth 0 1 true false), [], j) := by
   rw [hA, h47]; rfl
  rw [hX]
  exact ⟨_, rfl, by rw [Rep], hp, hG⟩
 refine qr<|qq (R.eqS rfl rfl) rfl<|pr 1 rfl<|ns<|cD rfl (fun h48 => ?_) fun h48 => ?_
 ·refine rR<|qq (R.build (vs := [.int .i64 0, .int .i64 1, .bool false, .bool true]) (ps := [(1, .int .i64 0), (2, .int .i64 1), (4, .bool true), (3, .bool false)]) (fun a ha => by simp [Act.eval]) kR) rfl<|qq (R.mkI rfl mi122) rfl<|pr 1 rfl<|nbs<|rT<|At.res3 rfl rfl rfl rfl ?_
  have hX : Im.pse s grp i = some (some (.nth 0 1 false true), [], j) := by
   rw [hA, h48]; rfl
  rw [hX]
  exact ⟨_, rfl, by rw [Rep], hp, hG⟩
 refine qr<|qq (R.eqS rfl rfl) rfl<|pr 1 rfl<|ns<|cD rfl (fun h49 => ?_) fun h49 => ?_
 ·refine rR<|qq (R.build (vs := [.int .i64 0, .int .i64 1, .bool true, .bool true]) (ps := [(1, .int .i64 0), (2, .int .i64 1), (4, .bool true), (3, .bool true)]) (fun a ha => by simp [Act.eval]) kR) rfl<|qq (R.mkI rfl mi122) rfl<|pr 1 rfl<|nbs<|rT<|At.res3 rfl rfl rfl rfl ?_
  have hX : Im.pse s grp i = some (some (.nth 0 1 true true), [], j) := by
   rw [hA, h49]; rfl
  rw [hX]
  exact ⟨_, rfl, by rw [Rep], hp, hG⟩
 refine qr<|qq (R.eqS rfl rfl) rfl<|pr 1 rfl<|ns<|cD rfl (fun h50 => ?_) fun h50 => ?_
 ·refine rR<|qq (R.build (vs := [.bool false]) (ps := [(1, .bool false)]) (fun a ha => by simp [Act.eval]) kR) rfl<|qq (R.mkI rfl mi124) rfl<|pr 1 rfl<|nbs<|rT<|At.res3 rfl rfl rfl rfl ?_
  have hX : Im.pse s grp i = some (some (.only false), [], j) := by
   rw [hA, h50]; rfl
  rw [hX]
  exact ⟨_, rfl, by rw [Rep], hp, hG⟩
 refine qr<|qq (R.eqS rfl rfl) rfl<|pr 1 rfl<|ns<|cD rfl (fun h51 => ?_) fun h51 => ?_
 ·refine rR<|qq (R.build (vs := [.bool true]) (ps := [(1, .bool true)]) (fun a ha => by simp [Act.eval]) kR) rfl<|qq (R.mkI rfl mi124) rfl<|pr 1 rfl<|nbs<|rT<|At.res3 rfl rfl rfl rfl ?_
  have hX : Im.pse s grp i = some (some (.only true), [], j) := by
   rw [hA, h51]; rfl
  rw [hX]
  exact ⟨_, rfl, by rw [Rep], hp, hG⟩
 refine qr<|qq (R.eqS rfl rfl) rfl<|pr 1 rfl<|ns<|cD rfl (fun h52 => ?_) fun h52 => ?_
 ·refine rR<|qq (R.build (vs := []) (ps := []) (fun a ha => by simp) kR) rfl<|qq (R.mkI rfl mi126) rfl<|pr 1 rfl<|nbs<|rT<|At.res3 rfl rfl rfl rfl ?_
  have hX : Im.pse s grp i = some (some (.flat 126), [], j) := by
   rw [hA, h52]; rfl
  rw [hX]
  exact ⟨_, rfl, by rw [Rep], hp, hG⟩
 refine qr<|qq (R.eqS rfl rfl) rfl<|pr 1 rfl<|ns<|cD rfl (fun h53 => ?_) fun h53 => ?_
 ·refine rR<|qq (R.build (vs := []) (ps := []) (fun a ha => by simp) kR) rfl<|qq (R.mkI rfl mi127) rfl<|pr 1 rfl<|nbs<|rT<|At.res3 rfl rfl rfl rfl ?_
  have hX : Im.pse s grp i = some (some (.flat 127), [], j) := by
   rw [hA, h53]; rfl
  rw [hX]
  exact ⟨_, rfl, by rw [Rep], hp, hG⟩
 refine qr<|qq (R.eqS rfl rfl) rfl<|pr 1 rfl<|ns<|cD rfl (fun h54 => ?_) fun h54 => ?_
 ·refine rR<|qq (R.build (vs := []) (ps := []) (fun a ha => by simp) kR) rfl<|qq (R.mkI rfl mi128) rfl<|pr 1 rfl<|nbs<|rT<|At.res3 rfl rfl rfl rfl ?_
  have hX : Im.pse s grp i = some (some (.flat 128), [], j) := by
   rw [hA, h54]; rfl
  rw [hX]
  exact ⟨_, rfl, by rw [Rep], hp, hG⟩
 refine qr<|qq (R.eqS rfl rfl) rfl<|pr 1 rfl<|ns<|cD rfl (fun h55 => ?_) fun h55 => ?_
 ·refine rR<|qq (R.build (vs := []) (ps := []) (fun a ha => by simp) kR) rfl<|qq (R.mkI rfl mi129) rfl<|pr 1 rfl<|nbs<|rT<|At.res3 rfl rfl rfl rfl ?_
  have hX : Im.pse s grp i = some (some (.flat 129), [], j) := by
   rw [hA, h55]; rfl
  rw [hX]
  exact ⟨_, rfl, by rw [Rep], hp, hG⟩
 refine qr<|qq (R.eqS rfl rfl) rfl<|pr 1 rfl<|ns<|cD rfl (fun h56 => ?_) fun h56 => ?_
 ·refine rQ<|rQ ?_
  have hL : Im.pseNamed s grp nm j = Im.pseLang s j := by rw [h56]; rfl
  refine rR<|pr 1 rfl<|eN en66 rfl (cparen_calls p s j d acc _ hp hb om) fun v w hv => ?_
  obtain ⟨hv1, hpo, hv⟩ := hv
  clear hp
  have hG := hG.trans hv
  rcases hM57 : Im.cparen s j with _ | j57
  ·simp only [hM57, Option.isSome_none, Option.getD_none] at hv1 hpo
   subst hv1
   have hp := hpo
   clear hpo
   refine pr 1 rfl<|ns<|cV rfl<|rQ ?_
   obtain ⟨gt0, ge0, hg0⟩ := (hrng.gr hG).2 0 om
   refine dR<|prq 1 rfl<|qw (fun w hw => R.loadC sc44 rfl (World.grownBy.cell hw hg0 (by simp))) rfl<|prq 3 rfl<|Wq.nil fun w hw => ?_
   have hp := hp.grN hw
   have hG := hG.trans (hw.no _)
   refine rS<|rT<|rH<|rC<|rH<|At.res3 rfl rfl rfl rfl ?_
   have hX : Im.pse s grp i = none := by
    rw [hA, hL, Im.pseLang, hM57]
   rw [hX]
   exact ⟨_, _, _, _, rfl, ⟨_, _, rfl⟩, hp, hG⟩
  simp only [hM57, Option.isSome_some, Option.getD_some] at hv1 hpo
  subst hv1
  have hp := hpo
  clear hpo
  obtain ⟨hea57, heb57⟩ := Im.cparen_le hM57
  refine pr 1 rfl<|ns<|cF rfl<|ksq<|rQ<|dR<|prq 2 rfl<|fQ fo63_1 rfl<|lQ sc3 hp rfl rfl<|prq 2 rfl<|fQ fo63_0 rfl<|lQ sc9 hp rfl rfl<|qw (fun w hw => R.lenS rfl u9) rfl<|qw (fun w hw => R.eqI rfl rfl) rfl<|Wq.nil fun w hw => ?_
  have hp := hp.grN hw
  have hG := hG.trans (hw.no _)
  refine rS<|cD rfl (fun h58 => ?_) fun h58 => ?_
  ·refine rQ ?_
   obtain ⟨gt2, ge2, hg2⟩ := (hrng.gr hG).2 2 om
   refine dR<|prq 1 rfl<|qw (fun w hw => R.loadC sc44 rfl (World.grownBy.cell hw hg2 (by simp))) rfl<|prq 3 rfl<|Wq.nil fun w hw => ?_
   have hp := hp.grN hw
   have hG := hG.trans (hw.no _)
   refine rS<|rT<|rH<|rC<|rH<|At.res3 rfl rfl rfl rfl ?_
   have hX : Im.pse s grp i = none := by
    rw [hA, hL, Im.pseLang, hM57]
    simp only []
    rw [if_pos om]
   rw [hX]
   exact ⟨_, _, _, _, rfl, ⟨_, _, rfl⟩, hp, hG⟩
  refine ksqr<|pr 1 rfl<|eN en62 rfl (ident_calls p s j57 d acc _ hp hb om) fun v w hv => ?_
  rcases hM59 : Im.ident s j57 with _ | ⟨x59, j59⟩
  ·rw [hM59] at hv
   obtain ⟨rr59, ee59, j59, rfl, ⟨et59, eu59, rfl⟩, hpo, hv⟩ := hv
   clear hp
   have hp := hpo
   clear hpo
   have hG := hG.trans hv
   refine pr 5 rfl<|nsq<|qr<|pr 1 rfl<|qq (R.neNilT ifc44 rfl) rfl<|ns<|cV rfl<|qr<|pr 5 rfl<|nsth<|rC<|rH<|At.res3 rfl rfl rfl rfl ?_
   have hX : Im.pse s grp i = none := by
    rw [hA, hL, Im.pseLang, hM57]
    simp only []
    rw [if_neg om, hM59]
   rw [hX]
   exact ⟨_, _, _, _, rfl, ⟨_, _, rfl⟩, hp, hG⟩
  rw [hM59] at hv
  obtain ⟨rfl, hpo, hv⟩ := hv
  clear hp
  have hp := hpo
  clear hpo
  have hG := hG.trans hv
  obtain ⟨hea59, heb59, hec59⟩ := Im.ident_le hM59
  refine pr 5 rfl<|nsq<|qr<|pr 1 rfl<|qq (R.neNilF ifc44 rfl) rfl<|ns<|cF rfl<|ksqr<|pr 1 rfl<|eN en68 rfl (zzLower_calls _ _ om) fun v w hv => ?_
  obtain ⟨rfl, hv⟩ := hv
  have hp := hp.grN hv
  have hG := hG.trans (hv.no _)
  refine pr 1 rfl<|nsqr<|pr 1 rfl<|eN en38 rfl (ws_calls p s j59 d acc _ hp hb om) fun v w hv => ?_
  obtain ⟨hv1, hpo, hv⟩ := hv
  obtain ⟨hwa60, hwb60⟩ := Im.ws_le s j59
  have hwb60 := hwb60 om
  clear hp
  generalize hj60 : Im.ws s j59 = j60 at hv1 hpo hwa60 hwb60
  have hp := hpo
  clear hpo
  subst hv1
  have hG := hG.trans hv
  refine nsq<|rQ<|dR<|prq 2 rfl<|fQ fo63_1 rfl<|lQ sc3 hp rfl rfl<|prq 2 rfl<|fQ fo63_0 rfl<|lQ sc9 hp rfl rfl<|qw (fun w hw => R.lenS rfl u9) rfl<|qw (fun w hw => R.geI rfl rfl) rfl<|Wq.nil fun w hw => ?_
  have hp := hp.grN hw
  have hG := hG.trans (hw.no _)
  refine rS<|cD rfl (fun h61 => ?_) fun h61 => ?_
  ·refine qr<|pr 1 rfl<|eN en21 rfl (errNew_calls _ _) fun v w hv => ?_
   obtain ⟨⟨et, eu, rfl⟩, hv⟩ := hv
   have hp := hp.grN hv
   have hG := hG.trans (hv.no _)
   refine pr 3 rfl<|nsth<|rC<|rH<|At.res3 rfl rfl rfl rfl ?_
   have hX : Im.pse s grp i = none := by
    rw [hA, hL, Im.pseLang, hM57]
    simp only []
    rw [if_neg om, hM59]
    simp only []
    rw [hj60, if_pos om]
   rw [hX]
   exact ⟨_, _, _, _, rfl, ⟨_, _, rfl⟩, hp, hG⟩
  refine ksq<|qr<|pr 1 rfl<|eN en67 rfl (cclose_calls p s j60 d acc _ hp hb om) fun v w hv => ?_
  obtain ⟨hv1, hpo, hv⟩ := hv
  clear hp
  have hG := hG.trans hv
  rcases hM62 : Im.cclose s j60 with _ | j62
  ·simp only [hM62, Option.isSome_none, Option.getD_none] at hv1 hpo
   subst hv1
   have hp := hpo
   clear hpo
   refine pr 1 rfl<|ns<|cV rfl<|rQ ?_
   obtain ⟨gt1, ge1, hg1⟩ := (hrng.gr hG).2 1 om
   refine dR<|prq 1 rfl<|qw (fun w hw => R.loadC sc44 rfl (World.grownBy.cell hw hg1 (by simp))) rfl<|prq 3 rfl<|Wq.nil fun w hw => ?_
   have hp := hp.grN hw
   have hG := hG.trans (hw.no _)
   refine rS<|rT<|rH<|rC<|rH<|At.res3 rfl rfl rfl rfl ?_
   have hX : Im.pse s grp i = none := by
    rw [hA, hL, Im.pseLang, hM57]
    simp only []
    rw [if_neg om, hM59]
    simp only []
    rw [hj60, if_neg om, hM62]
   rw [hX]
   exact ⟨_, _, _, _, rfl, ⟨_, _, rfl⟩, hp, hG⟩
  simp only [hM62, Option.isSome_some, Option.getD_some] at hv1 hpo
  subst hv1
  have hp := hpo
  clear hpo
  obtain ⟨hea62, heb62⟩ := Im.cclose_le hM62
  refine pr 1 rfl<|ns<|cF rfl<|ks<|rR<|pr 1 rfl<|qq (R.build (vs := [str (Sp.lower x59)]) (ps := [(1, str (Sp.lower x59))]) (fun a ha => by simp [ha.ev (x := .tmp 364) rfl]) kR) rfl<|qq (R.mkI rfl mi131) rfl<|pr 1 rfl<|nbs<|rT<|At.res3 rfl rfl rfl rfl ?_
  have hX : Im.pse s grp i = some (some (.lang (Sp.lower x59)), [], j62) := by
   rw [hA, hL, Im.pseLang, hM57]
   simp only []
   rw [if_neg om, hM59]
   simp only []
   rw [hj60, if_neg om, hM62]
  rw [hX]
  exact ⟨_, rfl, by rw [Rep], hp, hG⟩
 refine qr<|qq (R.eqS rfl rfl) rfl<|pr 1 rfl<|ns<|cD rfl (fun h63 => ?_) fun h63 => ?_
 ·refine rR<|qq (R.build (vs := []) (ps := []) (fun a ha => by simp) kR) rfl<|qq (R.mkI rfl mi132) rfl<|pr 1 rfl<|nbs<|rT<|At.res3 rfl rfl rfl rfl ?_
  have hX : Im.pse s grp i = some (some (.flat 132), [], j) := by
   rw [hA, h63]; rfl
  rw [hX]
  exact ⟨_, rfl, by rw [Rep], hp, hG⟩
 refine qr<|qq (R.eqS rfl rfl) rfl<|pr 1 rfl<|ns<|cD rfl (fun h64 => ?_) fun h64 => ?_
 ·refine rR<|qq (R.build (vs := []) (ps := []) (fun a ha => by simp) kR) rfl<|qq (R.mkI rfl mi133) rfl<|pr 1 rfl<|nbs<|rT<|At.res3 rfl rfl rfl rfl ?_
  have hX : Im.pse s grp i = some (some (.flat 133), [], j) := by
   rw [hA, h64]; rfl
  rw [hX]
  exact ⟨_, rfl, by rw [Rep], hp, hG⟩
 refine qr<|qq (R.eqS rfl rfl) rfl<|pr 1 rfl<|ns<|cD rfl (fun h65 => ?_) fun h65 => ?_
 ·refine rR<|qq (R.build (vs := []) (ps := []) (fun a ha => by simp) kR) rfl<|qq (R.mkI rfl mi134) rfl<|pr 1 rfl<|nbs<|rT<|At.res3 rfl rfl rfl rfl ?_
  have hX : Im.pse s grp i = some (some (.flat 134), [], j) := by
   rw [hA, h65]; rfl
  rw [hX]
  exact ⟨_, rfl, by rw [Rep], hp, hG⟩
 refine C.cut (fun l w' => ∃ bd : Bool, l = [(0, pP p), (2, .nilIface), (3, str []), (4, .nilIface), (6, str nm), (130, str nm), (379, .bool bd)] ∧ PD p s j d acc w' ∧ Gr w0 w' (some p) ∧ bd = Im.nevers.contains nm) ?_ ?_
 ·refine qr<|qq (R.eqS rfl rfl) rfl<|pr 1 rfl<|ns<|cD rfl (fun h66 => ?_) fun h66 => ?_
  ·have h66i := h66
   rw [decide_eq_true h66i]
   refine rK ?_
   exact cT [(0, pP p), (2, .nilIface), (3, str []), (4, .nilIface), (6, str nm), (130, str nm), (379, .bool true)] rfl ⟨_, rfl, hp, hG, by rw [h66]; rfl⟩
  have h66i := h66
  rw [decide_eq_false h66i]
  refine qr<|qq (R.eqS rfl rfl) rfl<|pr 1 rfl<|ns<|cD rfl (fun h67 => ?_) fun h67 => ?_
  ·have h67i := h67
   rw [decide_eq_true h67i]
   refine rK ?_
   exact cT [(0, pP p), (2, .nilIface), (3, str []), (4, .nilIface), (6, str nm), (130, str nm), (379, .bool true)] rfl ⟨_, rfl, hp, hG, by rw [h67]; rfl⟩
  have h67i := h67
  rw [decide_eq_false h67i]
  refine qr<|qq (R.eqS rfl rfl) rfl<|pr 1 rfl<|ns<|cD rfl (fun h68 => ?_) fun h68 => ?_
  ·have h68i := h68
   rw [decide_eq_true h68i]
   refine rK ?_
   exact cT [(0, pP p), (2, .nilIface), (3, str []), (4, .nilIface), (6, str nm), (130, str nm), (379, .bool true)] rfl ⟨_, rfl, hp, hG, by rw [h68]; rfl⟩
  have h68i := h68
  rw [decide_eq_false h68i]
  refine qr<|qq (R.eqS rfl rfl) rfl<|pr 1 rfl<|ns<|cD rfl (fun h69 => ?_) fun h69 => ?_
  ·have h69i := h69
   rw [decide_eq_true h69i]
   refine rK ?_
   exact cT [(0, pP p), (2, .nilIface), (3, str []), (4, .nilIface), (6, str nm), (130, str nm), (379, .bool true)] rfl ⟨_, rfl, hp, hG, by rw [h69]; rfl⟩
  have h69i := h69
  rw [decide_eq_false h69i]
  refine rR<|qq (R.eqS rfl rfl) rfl<|pr 1 rfl<|rN ?_
  exact cT [(0, pP p), (2, .nilIface), (3, str []), (4, .nilIface), (6, str nm), (130, str nm), (379, _)] rfl ⟨_, rfl, hp, hG, by rw [Bool.eq_iff_iff, decide_eq_true_iff]; simp only [Im.nevers, List.contains_cons, List.contains_nil, Bool.or_eq_true, beq_iff_eq, Bool.or_false]; simp [h66, h67, h68, h69]⟩
 rintro l w ⟨bd, rfl, hp, hG, hr4⟩
 refine cC rfl (fun h70 => ?_) (fun h70 => ?_)
 ·try simp only [Bool.not_eq_true', Bool.not_eq_false'] at h70
  subst h70
  refine rR<|pr 1 rfl<|qq (R.addS (s := [58]) rfl rfl (by simp only [List.length_cons, List.length_nil]; omega)) rfl<|qq (R.build (vs := [str (58 :: nm)]) (ps := [(0, str (58 :: nm))]) (fun a ha => by simp [ha.ev (x := .tmp 386) rfl]) kR) rfl<|qq (R.mkI rfl mi136) rfl<|pr 1 rfl<|nbs<|rT<|At.res3 rfl rfl rfl rfl ?_
  have hX : Im.pse s grp i = some (some (.never (58 :: nm)), [], j) := by
   rw [hA, Im.pseNamed, if_neg (of_decide_eq_false hr1.symm), if_neg (of_decide_eq_false hr2.symm), if_neg (of_decide_eq_false hr3.symm)]
   simp only [Im.simpleOf, Im.simpleOf2, h46, h47, h48, h49, h50, h51, h52, h53, h54, h55, h56, h63, h64, h65, if_false, ← hr4, if_true]
  rw [hX]
  exact ⟨_, rfl, by rw [Rep], hp, hG⟩
 try simp only [Bool.not_eq_true', Bool.not_eq_false'] at h70
 subst h70
 refine C.cut (fun l w' => ∃ bd : Bool, l = [(0, pP p), (2, .nilIface), (3, str []), (4, .nilIface), (6, str nm), (130, str nm), (389, .bool bd)] ∧ PD p s j d acc w' ∧ Gr w0 w' (some p) ∧ bd = Im.elements.contains nm) ?_ ?_
 ·refine qr<|qq (R.eqS rfl rfl) rfl<|pr 1 rfl<|ns<|cD rfl (fun h71 => ?_) fun h71 => ?_
  ·have h71i := h71
   rw [decide_eq_true h71i]
   refine rK ?_
   exact cT [(0, pP p), (2, .nilIface), (3, str []), (4, .nilIface), (6, str nm), (130, str nm), (389, .bool true)] rfl ⟨_, rfl, hp, hG, by rw [h71]; rfl⟩
  have h71i := h71
  rw [decide_eq_false h71i]
  refine qr<|qq (R.eqS rfl rfl) rfl<|pr 1 rfl<|ns<|cD rfl (fun h72 => ?_) fun h72 => ?_
  ·have h72i := h72
   rw [decide_eq_true h72i]
   refine rK ?_
   exact cT [(0, pP p), (2, .nilIface), (3, str []), (4, .nilIface), (6, str nm), (130, str nm), (389, .bool true)] rfl ⟨_, rfl, hp, hG, by rw [h72]; rfl⟩
  have h72i := h72
  rw [decide_eq_false h72i]
  refine qr<|qq (R.eqS rfl rfl) rfl<|pr 1 rfl<|ns<|cD rfl (fun h73 => ?_) fun h73 => ?_
  ·have h73i := h73
   rw [decide_eq_true h73i]
   refine rK ?_
   exact cT [(0, pP p), (2, .nilIface), (3, str []), (4, .nilIface), (6, str nm), (130, str nm), (389, .bool true)] rfl ⟨_, rfl, hp, hG, by rw [h73]; rfl⟩
  have h73i := h73
  rw [decide_eq_false h73i]
  refine qr<|qq (R.eqS rfl rfl) rfl<|pr 1 rfl<|ns<|cD rfl (fun h74 => ?_) fun h74 => ?_
  ·have h74i := h74
   rw [decide_eq_true h74i]
   refine rK ?_
   exact cT [(0, pP p), (2, .nilIface), (3, str []), (4, .nilIface), (6, str nm), (130, str nm), (389, .bool true)] rfl ⟨_, rfl, hp, hG, by rw [h74]; rfl⟩
  have h74i := h74
  rw [decide_eq_false h74i]
  refine qr<|qq (R.eqS rfl rfl) rfl<|pr 1 rfl<|ns<|cD rfl (fun h75 => ?_) fun h75 => ?_
  ·have h75i := h75
   rw [decide_eq_true h75i]
   refine rK ?_
   exact cT [(0, pP p), (2, .nilIface), (3, str []), (4, .nilIface), (6, str nm), (130, str nm), (389, .bool true)] rfl ⟨_, rfl, hp, hG, by rw [h75]; rfl⟩
  have h75i := h75
  rw [decide_eq_false h75i]
  refine qr<|qq (R.eqS rfl rfl) rfl<|pr 1 rfl<|ns<|cD rfl (fun h76 => ?_) fun h76 => ?_
  ·have h76i := h76
   rw [decide_eq_true h76i]
   refine rK ?_
   exact cT [(0, pP p), (2, .nilIface), (3, str []), (4, .nilIface), (6, str nm), (130, str nm), (389, .bool true)] rfl ⟨_, rfl, hp, hG, by rw [h76]; rfl⟩
  have h76i := h76
  rw [decide_eq_false h76i]
  refine qr<|qq (R.eqS rfl rfl) rfl<|pr 1 rfl<|ns<|cD rfl (fun h77 => ?_) fun h77 => ?_
  ·have h77i := h77
   rw [decide_eq_true h77i]
   refine rK ?_
   exact cT [(0, pP p), (2, .nilIface), (3, str []), (4, .nilIface), (6, str nm), (130, str nm), (389, .bool true)] rfl ⟨_, rfl, hp, hG, by rw [h77]; rfl⟩
  have h77i := h77
  rw [decide_eq_false h77i]
  refine qr<|qq (R.eqS rfl rfl) rfl<|pr 1 rfl<|ns<|cD rfl (fun h78 => ?_) fun h78 => ?_
  ·have h78i := h78
   rw [decide_eq_true h78i]
   refine rK ?_
   exact cT [(0, pP p), (2, .nilIface), (3, str []), (4, .nilIface), (6, str nm), (130, str nm), (389, .bool true)] rfl ⟨_, rfl, hp, hG, by rw [h78]; rfl⟩
  have h78i := h78
  rw [decide_eq_false h78i]
  refine qr<|qq (R.eqS rfl rfl) rfl<|pr 1 rfl<|ns<|cD rfl (fun h79 => ?_) fun h79 => ?_
  ·have h79i := h79
   rw [decide_eq_true h79i]
   refine rK ?_
   exact cT [(0, pP p), (2, .nilIface), (3, str []), (4, .nilIface), (6, str nm), (130, str nm), (389, .bool true)] rfl ⟨_, rfl, hp, hG, by rw [h79]; rfl⟩
  have h79i := h79
  rw [decide_eq_false h79i]
  refine qr<|qq (R.eqS rfl rfl) rfl<|pr 1 rfl<|ns<|cD rfl (fun h80 => ?_) fun h80 => ?_
  ·have h80i := h80
   rw [decide_eq_true h80i]
   refine rK ?_
   exact cT [(0, pP p), (2, .nilIface), (3, str []), (4, .nilIface), (6, str nm), (130, str nm), (389, .bool true)] rfl ⟨_, rfl, hp, hG, by rw [h80]; rfl⟩
  have h80i := h80
  rw [decide_eq_false h80i]
  refine rR<|qq (R.eqS rfl rfl) rfl<|pr 1 rfl<|rN ?_
  exact cT [(0, pP p), (2, .nilIface), (3, str []), (4, .nilIface), (6, str nm), (130, str nm), (389, _)] rfl ⟨_, rfl, hp, hG, by rw [Bool.eq_iff_iff, decide_eq_true_iff]; simp only [Im.elements, List.contains_cons, List.contains_nil, Bool.or_eq_true, beq_iff_eq, Bool.or_false]; simp [h71, h72, h73, h74, h75, h76, h77, h78, h79, h80]⟩
 rintro l w ⟨bd, rfl, hp, hG, hr5⟩
 refine cC rfl (fun h81 => ?_) (fun h81 => ?_)
 ·try simp only [Bool.not_eq_true', Bool.not_eq_false'] at h81
  subst h81
  refine qr<|pr 4 rfl<|nst<|rC<|rH<|At.res3 rfl rfl rfl rfl ?_
  have hX : Im.pse s grp i = some (none, nm, j) := by
   rw [hA, Im.pseNamed, if_neg (of_decide_eq_false hr1.symm), if_neg (of_decide_eq_false hr2.symm), if_neg (of_decide_eq_false hr3.symm)]
   simp only [Im.simpleOf, Im.simpleOf2, h46, h47, h48, h49, h50, h51, h52, h53, h54, h55, h56, h63, h64, h65, if_false, ← hr4, ← hr5, if_true, Bool.false_eq_true]
  rw [hX]
  exact ⟨rfl, hp, hG⟩
 try simp only [Bool.not_eq_true', Bool.not_eq_false'] at h81
 subst h81
 refine qr<|pr 1 rfl<|eN en21 rfl (errNew_calls _ _) fun v w hv => ?_
 obtain ⟨⟨et, eu, rfl⟩, hv⟩ := hv
 have hp := hp.grN hv
 have hG := hG.trans (hv.no _)
 refine pr 3 rfl<|nst<|rC<|rH<|At.res3 rfl rfl rfl rfl ?_
 have hX : Im.pse s grp i = none := by
  rw [hA, Im.pseNamed, if_neg (of_decide_eq_false hr1.symm), if_neg (of_decide_eq_false hr2.symm), if_neg (of_decide_eq_false hr3.symm)]
  simp only [Im.simpleOf, Im.simpleOf2, h46, h47, h48, h49, h50, h51, h52, h53, h54, h55, h56, h63, h64, h65, if_false, ← hr4, ← hr5, Bool.false_eq_true]
 rw [hX]
 exact ⟨_, _, _, _, rfl, ⟨_, _, rfl⟩, hp, hG⟩
end Go.Proofs.YtogfnbkccfkpoaaGreatDoor
namespace Go.Proofs.YtogfnbkccfkpoaaGreatDoor
open Go Go.RowKit
def flats : List Nat := [126, 127, 128, 129, 132, 133, 134]
mutual
def IS.Good : IS → Prop
 | .nth a b _ _ => Im.Fits a ∧ Im.Fits b
 | .flat ty => ty ∈ flats
 | .rel _ g => IS.GoodL g
 | .comp l _ => IS.GoodL l
 | .comb a c b => a.Good ∧ c < 256 ∧ b.Good
 | _ => True
def IS.GoodL : List IS → Prop
 | [] => True
 | x :: r => x.Good ∧ IS.GoodL r
end
theorem IS.GoodL_append {a b : List IS} (ha : IS.GoodL a) (hb : IS.GoodL b) : IS.GoodL (a ++ b) := by
 induction a with
 | nil => exact hb
 | cons x r ih =>
  rw [IS.GoodL] at ha
  rw [List.cons_append, IS.GoodL]
  exact ⟨ha.1, ih ha.2⟩
theorem IS.GoodL.get {l : List IS} (h : IS.GoodL l) : ∀ x ∈ l, x.Good := by
 induction l with
 | nil => intro x hx; simp at hx
 | cons y r ih =>
  rw [IS.GoodL] at h
  intro x hx
  rcases List.mem_cons.1 hx with rfl | hx
  ·exact h.1
  exact ih h.2 x hx
namespace Im
def GrpW (s : List UInt8) (grp : Nat → Option (List IS × Nat)) (lo : Nat) : Prop := ∀ j l j', lo ≤ j → j ≤ s.length → grp j = some (l, j') → j ≤ j' ∧ j' ≤ s.length ∧ IS.wtL l ≤ 100 * (j' - j) + 5 ∧ IS.GoodL l
theorem attrVal_law {s key op : List UInt8} {i : Nat} {x : IS} {j : Nat} (hi : i ≤ s.length) (h : attrVal s key op i = some (x, j)) : i + 1 ≤ j ∧ j ≤ s.length ∧ x.wt ≤ key.length + op.length + 6 + 4 * (j - i) ∧ x.Good := by
 have a1 := ws_le s i
 have b1 := a1.2 hi
 simp only [attrVal] at h
 split at h
 ·cases h
 cases hw : word s (ws s i) with
 | none => rw [hw] at h; cases h
 | some p =>
  obtain ⟨val, i2⟩ := p
  rw [hw] at h
  have a2 := word_le hw
  have a3 := ws_le s i2
  have b3 := a3.2 a2.2.1
  simp only at h
  split at h
  ·cases h
  generalize decide (byteAt s (ws s i2) = 105 ∨ byteAt s (ws s i2) = 73) = ins at h
  have hx : (if ins = true then ws s i2 + 1 else ws s i2) ≤ s.length ∧ ws s i2 ≤ (if ins = true then ws s i2 + 1 else ws s i2) := by split <;> omega
  generalize (if ins = true then ws s i2 + 1 else ws s i2) = i3 at h hx
  have a4 := ws_le s i3
  have b4 := a4.2 hx.1
  split at h
  ·cases h
  split at h
  ·cases h
  split at h
  ·simp only [Option.some.injEq, Prod.mk.injEq] at h
   obtain ⟨rfl, rfl⟩ := h
   refine ⟨by omega, by omega, ?_, trivial⟩
   rw [IS.wt]; omega
  cases h
theorem attr_law {s : List UInt8} {i : Nat} {x : IS} {j : Nat} (hi : i < s.length) (h : attr s i = some (x, j)) : i + 1 ≤ j ∧ j ≤ s.length ∧ x.wt + 2 ≤ 100 * (j - i) ∧ x.Good := by
 have a1 := ws_le s (i + 1)
 have b1 := a1.2 hi
 rw [attr] at h
 cases hw : ident s (ws s (i + 1)) with
 | none => rw [hw] at h; cases h
 | some p =>
  obtain ⟨key, i2⟩ := p
  rw [hw] at h
  have a2 := ident_le hw
  have a3 := ws_le s i2
  have b3 := a3.2 a2.2.1
  have hk := Sp.lower_length key
  simp only at h
  split at h
  ·cases h
  split at h
  ·simp only [Option.some.injEq, Prod.mk.injEq] at h
   obtain ⟨rfl, rfl⟩ := h
   refine ⟨by omega, by omega, ?_, trivial⟩
   rw [IS.wt]; simp only [List.length_nil]; omega
  split at h
  ·cases h
  split at h
  ·have := attrVal_law (by omega) h
   simp only [List.length_cons, List.length_nil] at this
   exact ⟨by omega, by omega, by omega, this.2.2.2⟩
  split at h
  ·cases h
  have := attrVal_law (by omega) h
  have hl : ((s.drop (ws s i2)).take 2).length ≤ 2 := by simp; omega
  exact ⟨by omega, by omega, by omega, this.2.2.2⟩
theorem simpleOf_law {nm : List UInt8} {x : IS} (h : simpleOf nm = some x) : x.wt ≤ 70 ∧ x.Good := by
 unfold simpleOf at h
 (repeat' split at h) <;> first | (simp only [Option.some.injEq] at h; subst h; simp [IS.wt, IS.Good, flats, Fits]) | cases h
theorem simpleOf2_law {nm : List UInt8} {x : IS} (h : simpleOf2 nm = some x) : x.wt ≤ 12 + nm.length ∧ x.Good := by
 unfold simpleOf2 at h
 (repeat' split at h) <;> first | (simp only [Option.some.injEq] at h; subst h; simp [IS.wt, IS.Good, flats]; try omega) | cases h
section
variable {s : List UInt8} {grp : Nat → Option (List IS × Nat)}
theorem pseRel_law {lo : Nat} (hg : GrpW s grp lo) {nm : List UInt8} {i j : Nat} {o : Option IS} {pe : List UInt8} (hi : lo ≤ i) (hn : nm.length ≤ 8) (h : pseRel s grp nm i = some (o, pe, j)) : i + 2 ≤ j ∧ j ≤ s.length ∧ (∀ x, o = some x → x.wt + 2 ≤ 100 * (j - i) ∧ x.Good) ∧ pe = [] := by
 unfold pseRel at h
 cases h1 : cparen s i with
 | none => rw [h1] at h; cases h
 | some j1 =>
  rw [h1] at h
  have a1 := cparen_le h1
  simp only at h
  cases h2 : grp j1 with
  | none => rw [h2] at h; cases h
  | some p =>
   obtain ⟨l, j2⟩ := p
   rw [h2] at h
   have a2 := hg j1 l j2 (by omega) a1.2 h2
   simp only at h
   cases h3 : cclose s j2 with
   | none => rw [h3] at h; cases h
   | some j3 =>
    rw [h3] at h
    have a3 := cclose_le h3
    simp only [Option.some.injEq, Prod.mk.injEq] at h
    obtain ⟨rfl, rfl, rfl⟩ := h
    refine ⟨by omega, by omega, ?_, rfl⟩
    rintro x ⟨⟩
    rw [IS.wt, IS.Good]
    exact ⟨by omega, a2.2.2.2⟩
theorem pseContains_law {own : Bool} {i j : Nat} {o : Option IS} {pe : List UInt8} (h : pseContains s own i = some (o, pe, j)) : i + 2 ≤ j ∧ j ≤ s.length ∧ (∀ x, o = some x → x.wt + 2 ≤ 100 * (j - i) ∧ x.Good) ∧ pe = [] := by
 unfold pseContains at h
 cases h1 : cparen s i with
 | none => rw [h1] at h; cases h
 | some j1 =>
  rw [h1] at h
  have a1 := cparen_le h1
  simp only at h
  split at h
  ·cases h
  cases h2 : word s j1 with
  | none => rw [h2] at h; cases h
  | some p =>
   obtain ⟨v, j2⟩ := p
   rw [h2] at h
   have a2 := word_le h2
   have a3 := ws_le s j2
   have hk := Sp.lower_length v
   simp only at h
   split at h
   ·cases h
   cases h3 : cclose s (ws s j2) with
   | none => rw [h3] at h; cases h
   | some j3 =>
    rw [h3] at h
    have a4 := cclose_le h3
    simp only [Option.some.injEq, Prod.mk.injEq] at h
    obtain ⟨rfl, rfl, rfl⟩ := h
    refine ⟨by omega, by omega, ?_, rfl⟩
    rintro x ⟨⟩
    rw [IS.wt]
    exact ⟨by omega, trivial⟩
theorem pseLang_law {i j : Nat} {o : Option IS} {pe : List UInt8} (h : pseLang s i = some (o, pe, j)) : i + 2 ≤ j ∧ j ≤ s.length ∧ (∀ x, o = some x → x.wt + 2 ≤ 100 * (j - i) ∧ x.Good) ∧ pe = [] := by
 unfold pseLang at h
 cases h1 : cparen s i with
 | none => rw [h1] at h; cases h
 | some j1 =>
  rw [h1] at h
  have a1 := cparen_le h1
  simp only at h
  split at h
  ·cases h
  cases h2 : ident s j1 with
  | none => rw [h2] at h; cases h
  | some p =>
   obtain ⟨v, j2⟩ := p
   rw [h2] at h
   have a2 := ident_le h2
   have a3 := ws_le s j2
   have hk := Sp.lower_length v
   simp only at h
   split at h
   ·cases h
   cases h3 : cclose s (ws s j2) with
   | none => rw [h3] at h; cases h
   | some j3 =>
    rw [h3] at h
    have a4 := cclose_le h3
    simp only [Option.some.injEq, Prod.mk.injEq] at h
    obtain ⟨rfl, rfl, rfl⟩ := h
    refine ⟨by omega, by omega, ?_, rfl⟩
    rintro x ⟨⟩
    rw [IS.wt]
    exact ⟨by omega, trivial⟩
theorem pseNth_law {la ot : Bool} {i j : Nat} {o : Option IS} {pe : List UInt8} (h : pseNth s la ot i = some (o, pe, j)) : i + 2 ≤ j ∧ j ≤ s.length ∧ (∀ x, o = some x → x.wt + 2 ≤ 100 * (j - i) ∧ x.Good) ∧ pe = [] := by
 unfold pseNth at h
 cases h1 : cparen s i with
 | none => rw [h1] at h; cases h
 | some j1 =>
  rw [h1] at h
  have a1 := cparen_le h1
  simp only at h
  cases h2 : nth s j1 with
  | none => rw [h2] at h; cases h
  | some p =>
   obtain ⟨a, b, j2⟩ := p
   rw [h2] at h
   have a2 := nth_le a1.2 h2
   simp only at h
   cases h3 : cclose s j2 with
   | none => rw [h3] at h; cases h
   | some j3 =>
    rw [h3] at h
    have a3 := cclose_le h3
    simp only [Option.some.injEq, Prod.mk.injEq] at h
    obtain ⟨rfl, rfl, rfl⟩ := h
    refine ⟨by omega, by omega, ?_, rfl⟩
    rintro x ⟨⟩
    rw [IS.wt, IS.Good]
    exact ⟨by omega, a2.2.2⟩
theorem pseNamed_law {lo : Nat} (hg : GrpW s grp lo) {nm : List UInt8} {i0 i j : Nat} {o : Option IS} {pe : List UInt8} (hi : lo ≤ i) (hil : i ≤ s.length) (hn : nm.length ≤ 4 * (i - i0)) (h2 : i0 + 2 ≤ i) (h : pseNamed s grp nm i = some (o, pe, j)) : i0 + 2 ≤ j ∧ j ≤ s.length ∧ (∀ x, o = some x → x.wt + 2 ≤ 100 * (j - i0) ∧ x.Good) ∧ pe.length ≤ 4 * (j - i0) := by
 unfold pseNamed at h
 split at h
 ·rename_i hq
  have := pseRel_law hg hi (by rcases hq with rfl | rfl | rfl <;> decide) h
  refine ⟨by omega, this.2.1, fun x hx => ⟨?_, (this.2.2.1 x hx).2⟩, by rw [this.2.2.2]; simp⟩
  have := (this.2.2.1 x hx).1; omega
 split at h
 ·have := pseContains_law h
  refine ⟨by omega, this.2.1, fun x hx => ⟨?_, (this.2.2.1 x hx).2⟩, by rw [this.2.2.2]; simp⟩
  have := (this.2.2.1 x hx).1; omega
 split at h
 ·have := pseNth_law h
  refine ⟨by omega, this.2.1, fun x hx => ⟨?_, (this.2.2.1 x hx).2⟩, by rw [this.2.2.2]; simp⟩
  have := (this.2.2.1 x hx).1; omega
 split at h
 ·rename_i y hy
  simp only [Option.some.injEq, Prod.mk.injEq] at h
  obtain ⟨rfl, rfl, rfl⟩ := h
  have := simpleOf_law hy
  refine ⟨by omega, by omega, ?_, by simp⟩
  rintro x ⟨⟩
  exact ⟨by omega, this.2⟩
 split at h
 ·have := pseLang_law h
  refine ⟨by omega, this.2.1, fun x hx => ⟨?_, (this.2.2.1 x hx).2⟩, by rw [this.2.2.2]; simp⟩
  have := (this.2.2.1 x hx).1; omega
 split at h
 ·rename_i y hy
  simp only [Option.some.injEq, Prod.mk.injEq] at h
  obtain ⟨rfl, rfl, rfl⟩ := h
  have := simpleOf2_law hy
  refine ⟨by omega, by omega, ?_, by simp⟩
  rintro x ⟨⟩
  exact ⟨by omega, this.2⟩
 split at h
 ·simp only [Option.some.injEq, Prod.mk.injEq] at h
  obtain ⟨rfl, rfl, rfl⟩ := h
  exact ⟨by omega, by omega, by rintro x ⟨⟩, by omega⟩
 cases h
theorem pse_law {i j : Nat} (hg : GrpW s grp (i + 1)) {o : Option IS} {pe : List UInt8} (h : pse s grp i = some (o, pe, j)) : i + 2 ≤ j ∧ j ≤ s.length ∧ (∀ x, o = some x → x.wt + 2 ≤ 100 * (j - i) ∧ x.Good) ∧ pe.length ≤ 4 * (j - i) := by
 unfold pse at h
 split at h
 ·cases h
 simp only at h
 generalize decide (byteAt s (i + 1) = 58) = must at h
 have hx : i + 1 ≤ (if must = true then i + 2 else i + 1) := by split <;> omega
 generalize (if must = true then i + 2 else i + 1) = i1 at h hx
 cases h1 : ident s i1 with
 | none => rw [h1] at h; cases h
 | some p =>
  obtain ⟨nm, i2⟩ := p
  rw [h1] at h
  have a1 := ident_le h1
  have hk := Sp.lower_length nm
  simp only at h
  split at h
  ·cases h
  exact pseNamed_law hg (by omega) a1.2.1 (by omega) (by omega) h
theorem simple_law {i j : Nat} (hg : GrpW s grp (i + 1)) (hi : i < s.length) {o : Option IS} {pe : List UInt8} (h : simple s grp i = some (some (o, pe, j))) : i + 1 ≤ j ∧ j ≤ s.length ∧ (∀ x, o = some x → x.wt + 2 ≤ 100 * (j - i) ∧ x.Good) ∧ pe.length ≤ 4 * (j - i) := by
 unfold simple at h
 split at h
 ·cases h1 : name s (i + 1) with
  | none => simp [h1] at h
  | some p =>
   obtain ⟨v, j1⟩ := p
   simp only [h1, Option.some.injEq, Prod.mk.injEq] at h
   obtain ⟨rfl, rfl, rfl⟩ := h
   have := name_le (by omega) h1
   refine ⟨by omega, by omega, ?_, by simp⟩
   rintro x ⟨⟩
   rw [IS.wt]; exact ⟨by omega, trivial⟩
 split at h
 ·cases h1 : ident s (i + 1) with
  | none => simp [h1] at h
  | some p =>
   obtain ⟨v, j1⟩ := p
   simp only [h1, Option.some.injEq, Prod.mk.injEq] at h
   obtain ⟨rfl, rfl, rfl⟩ := h
   have := ident_le h1
   refine ⟨by omega, by omega, ?_, by simp⟩
   rintro x ⟨⟩
   rw [IS.wt]; exact ⟨by omega, trivial⟩
 split at h
 ·cases h1 : attr s i with
  | none => simp [h1] at h
  | some p =>
   obtain ⟨v, j1⟩ := p
   simp only [h1, Option.some.injEq, Prod.mk.injEq] at h
   obtain ⟨rfl, rfl, rfl⟩ := h
   have := attr_law hi h1
   refine ⟨by omega, by omega, ?_, by simp⟩
   rintro x ⟨⟩
   exact ⟨this.2.2.1, this.2.2.2⟩
 split at h
 ·simp only [Option.some.injEq] at h
  have := pse_law hg h
  exact ⟨by omega, this.2⟩
 cases h
theorem seqGo_law {acc : Bool} {lo : Nat} (hg : GrpW s grp lo) : ∀ (k : Nat) (l : List IS) (pe : List UInt8) (i : Nat) (l' : List IS) (pe' : List UInt8) (j : Nat), lo ≤ i + 1 → i ≤ s.length → IS.GoodL l → seqGo s grp acc k l pe i = some (l', pe', j) → i ≤ j ∧ j ≤ s.length ∧ IS.wtL l' + pe'.length ≤ IS.wtL l + pe.length + 100 * (j - i) ∧ IS.GoodL l'
 | 0, l, pe, i, l', pe', j, hlo, hi, hl, h => by
  simp only [seqGo, Option.some.injEq, Prod.mk.injEq] at h
  obtain ⟨rfl, rfl, rfl⟩ := h
  exact ⟨Nat.le_refl _, hi, by omega, hl⟩
 | k + 1, l, pe, i, l', pe', j, hlo, hi, hl, h => by
  rw [seqGo] at h
  split at h
  ·rename_i hlt
   have hgi : GrpW s grp (i + 1) := fun a b c hab => hg a b c (by omega)
   split at h
   ·simp only [Option.some.injEq, Prod.mk.injEq] at h
    obtain ⟨rfl, rfl, rfl⟩ := h
    exact ⟨Nat.le_refl _, hi, by omega, hl⟩
   ·cases h
   ·rename_i nm j1 h1
    have a1 := simple_law hgi hlt h1
    split at h
    ·cases h
    split at h
    ·cases h
    have := seqGo_law hg k l nm j1 l' pe' j (by omega) a1.2.1 hl h
    exact ⟨by omega, by omega, by omega, this.2.2.2⟩
   rename_i x nm j1 h1
   have a1 := simple_law hgi hlt h1
   have a2 := a1.2.2.1 x rfl
   split at h
   ·cases h
   have := seqGo_law hg k (l ++ [x]) pe j1 l' pe' j (by omega) a1.2.1 (IS.GoodL_append hl ⟨a2.2, trivial⟩) h
   rw [IS.wtL_append] at this
   simp only [IS.wtL] at this
   exact ⟨by omega, by omega, by omega, this.2.2.2⟩
  simp only [Option.some.injEq, Prod.mk.injEq] at h
  obtain ⟨rfl, rfl, rfl⟩ := h
  exact ⟨Nat.le_refl _, hi, by omega, hl⟩
theorem seqHead_law {i j : Nat} {l : List IS} (hi : i < s.length) (h : seqHead s i = some (l, j)) : i ≤ j ∧ j ≤ s.length ∧ IS.wtL l ≤ 100 * (j - i) ∧ IS.GoodL l ∧ l.length ≤ 1 := by
 unfold seqHead at h
 split at h
 ·simp only [Option.some.injEq, Prod.mk.injEq] at h
  obtain ⟨rfl, rfl⟩ := h
  have : i + 1 ≤ (if i + 3 < s.length ∧ byteAt s (i + 1) = 124 ∧ byteAt s (i + 2) = 42 then i + 3 else i + 1) ∧ (if i + 3 < s.length ∧ byteAt s (i + 1) = 124 ∧ byteAt s (i + 2) = 42 then i + 3 else i + 1) ≤ s.length := by split <;> omega
  exact ⟨by omega, by omega, by simp [IS.wtL], trivial, by simp⟩
 split at h
 ·simp only [Option.some.injEq, Prod.mk.injEq] at h
  obtain ⟨rfl, rfl⟩ := h
  exact ⟨Nat.le_refl _, by omega, by simp [IS.wtL], trivial, by simp⟩
 cases h1 : ident s i with
 | none => rw [h1] at h; cases h
 | some p =>
  obtain ⟨v, j1⟩ := p
  rw [h1] at h
  simp only [Option.some.injEq, Prod.mk.injEq] at h
  obtain ⟨rfl, rfl⟩ := h
  have := ident_le h1
  have hk := Sp.lower_length v
  refine ⟨by omega, by omega, ?_, ⟨trivial, trivial⟩, by simp⟩
  simp only [IS.wtL, IS.wt]; omega
theorem seqEnd_law {l : List IS} {pe : List UInt8} {i j : Nat} {x : IS} (hl : IS.GoodL l) (h : seqEnd (some (l, pe, i)) = some (x, j)) : j = i ∧ x.wt ≤ IS.wtL l + pe.length + 3 ∧ x.Good := by
 unfold seqEnd at h
 simp only at h
 split at h
 ·rename_i y
  split at h <;> simp only [Option.some.injEq, Prod.mk.injEq] at h <;> obtain ⟨rfl, rfl⟩ := h
  ·refine ⟨rfl, ?_, hl.1⟩
   simp only [IS.wtL]; omega
  refine ⟨rfl, ?_, ?_⟩
  ·rw [IS.wt]; omega
  rw [IS.Good]; exact hl
 simp only [Option.some.injEq, Prod.mk.injEq] at h
 obtain ⟨rfl, rfl⟩ := h
 refine ⟨rfl, ?_, ?_⟩
 ·rw [IS.wt]; omega
 rw [IS.Good]; exact hl
theorem seq_law {acc : Bool} {i j : Nat} {x : IS} (hg : GrpW s grp (i + 1)) (h : seq s grp acc i = some (x, j)) : i ≤ j ∧ j ≤ s.length ∧ x.wt ≤ 100 * (j - i) + 3 ∧ x.Good := by
 unfold seq at h
 split at h
 ·cases h
 cases h1 : seqHead s i with
 | none => rw [h1] at h; cases h
 | some p =>
  obtain ⟨l, j1⟩ := p
  rw [h1] at h
  have a1 := seqHead_law (by omega) h1
  simp only at h
  cases h2 : seqGo s grp acc (s.length + 1) l [] j1 with
  | none => rw [h2] at h; cases h
  | some q =>
   obtain ⟨l2, pe, j2⟩ := q
   rw [h2] at h
   have a2 := seqGo_law hg _ _ _ _ _ _ _ (by omega) a1.2.1 a1.2.2.2.1 h2
   have a3 := seqEnd_law a2.2.2.2 h
   simp only [List.length_nil] at a2
   exact ⟨by omega, by omega, by omega, a3.2.2⟩
theorem selGo_law {acc : Bool} {lo : Nat} (hg : GrpW s grp lo) : ∀ (k : Nat) (x : IS) (i : Nat) (x' : IS) (j : Nat), lo ≤ i + 1 → i ≤ s.length → x.Good → selGo s grp acc k x i = some (x', j) → i ≤ j ∧ j ≤ s.length ∧ x'.wt ≤ x.wt + 100 * (j - i) ∧ x'.Good
 | 0, x, i, x', j, hlo, hi, hx, h => by
  simp only [selGo, Option.some.injEq, Prod.mk.injEq] at h
  obtain ⟨rfl, rfl⟩ := h
  exact ⟨Nat.le_refl _, hi, by omega, hx⟩
 | k + 1, x, i, x', j, hlo, hi, hx, h => by
  rw [selGo] at h
  have a0 := ws_le s i
  have b0 := a0.2 hi
  simp only at h
  split at h
  ·simp only [Option.some.injEq, Prod.mk.injEq] at h
   obtain ⟨rfl, rfl⟩ := h
   exact ⟨by omega, by omega, by omega, hx⟩
  have a1 := ws_le s (ws s i + 1)
  have b1 := a1.2 (by omega)
  split at h
  ·rename_i hc
   cases h1 : seq s grp acc (ws s (ws s i + 1)) with
   | none => rw [h1] at h; cases h
   | some p =>
    obtain ⟨y, j1⟩ := p
    rw [h1] at h
    simp only at h
    have a2 := seq_law (fun a b c hab => hg a b c (by omega)) h1
    have := selGo_law hg k _ j1 x' j (by omega) a2.2.1 (by rw [IS.Good]; exact ⟨hx, by omega, a2.2.2.2⟩) h
    rw [IS.wt] at this
    exact ⟨by omega, by omega, by omega, this.2.2.2⟩
  split at h
  ·simp only [Option.some.injEq, Prod.mk.injEq] at h
   obtain ⟨rfl, rfl⟩ := h
   exact ⟨by omega, by omega, by omega, hx⟩
  split at h
  ·cases h1 : seq s grp acc (ws s i) with
   | none => rw [h1] at h; cases h
   | some p =>
    obtain ⟨y, j1⟩ := p
    rw [h1] at h
    simp only at h
    have a2 := seq_law (fun a b c hab => hg a b c (by omega)) h1
    have := selGo_law hg k _ j1 x' j (by omega) a2.2.1 (by rw [IS.Good]; exact ⟨hx, by omega, a2.2.2.2⟩) h
    rw [IS.wt] at this
    exact ⟨by omega, by omega, by omega, this.2.2.2⟩
  simp only [Option.some.injEq, Prod.mk.injEq] at h
  obtain ⟨rfl, rfl⟩ := h
  exact ⟨by omega, by omega, by omega, hx⟩
theorem sel_law {acc : Bool} {i j : Nat} {x : IS} (hg : GrpW s grp (i + 1)) (hi : i ≤ s.length) (h : sel s grp acc i = some (x, j)) : i ≤ j ∧ j ≤ s.length ∧ x.wt ≤ 100 * (j - i) + 3 ∧ x.Good := by
 unfold sel at h
 have a0 := ws_le s i
 have b0 := a0.2 hi
 cases h1 : seq s grp acc (ws s i) with
 | none => rw [h1] at h; cases h
 | some p =>
  obtain ⟨y, j1⟩ := p
  rw [h1] at h
  simp only at h
  have a2 := seq_law (fun a b c hab => hg a b c (by omega)) h1
  have := selGo_law hg _ _ _ _ _ (by omega) a2.2.1 a2.2.2.2 h
  exact ⟨by omega, by omega, by omega, this.2.2.2⟩
theorem groupGo_law {acc : Bool} {lo : Nat} (hg : GrpW s grp lo) : ∀ (k : Nat) (l : List IS) (i : Nat) (l' : List IS) (j : Nat), lo ≤ i + 1 → i ≤ s.length → IS.GoodL l → groupGo s grp acc k l i = some (l', j) → i ≤ j ∧ j ≤ s.length ∧ IS.wtL l' ≤ IS.wtL l + 100 * (j - i) ∧ IS.GoodL l'
 | 0, l, i, l', j, hlo, hi, hl, h => by
  simp only [groupGo, Option.some.injEq, Prod.mk.injEq] at h
  obtain ⟨rfl, rfl⟩ := h
  exact ⟨Nat.le_refl _, hi, by omega, hl⟩
 | k + 1, l, i, l', j, hlo, hi, hl, h => by
  rw [groupGo] at h
  split at h
  ·cases h1 : sel s grp acc (i + 1) with
   | none => rw [h1] at h; cases h
   | some p =>
    obtain ⟨y, j1⟩ := p
    rw [h1] at h
    simp only at h
    have a2 := sel_law (fun a b c hab => hg a b c (by omega)) (by omega) h1
    have := groupGo_law hg k (l ++ [y]) j1 l' j (by omega) a2.2.1 (IS.GoodL_append hl ⟨a2.2.2.2, trivial⟩) h
    rw [IS.wtL_append] at this
    simp only [IS.wtL] at this
    exact ⟨by omega, by omega, by omega, this.2.2.2⟩
  simp only [Option.some.injEq, Prod.mk.injEq] at h
  obtain ⟨rfl, rfl⟩ := h
  exact ⟨Nat.le_refl _, hi, by omega, hl⟩
theorem groupW_law {acc : Bool} {i j : Nat} {l : List IS} (hg : GrpW s grp (i + 1)) (hi : i ≤ s.length) (h : groupW s grp acc i = some (l, j)) : i ≤ j ∧ j ≤ s.length ∧ IS.wtL l ≤ 100 * (j - i) + 5 ∧ IS.GoodL l := by
 unfold groupW at h
 cases h1 : sel s grp acc i with
 | none => rw [h1] at h; cases h
 | some p =>
  obtain ⟨y, j1⟩ := p
  rw [h1] at h
  simp only at h
  have a2 := sel_law hg hi h1
  have := groupGo_law hg _ [y] j1 l j (by omega) a2.2.1 ⟨a2.2.2.2, trivial⟩ h
  simp only [IS.wtL] at this
  exact ⟨by omega, by omega, by omega, this.2.2.2⟩
end
theorem group_law (s : List UInt8) (acc : Bool) : ∀ (k lo : Nat), GrpW s (group s acc k) lo
 | 0, lo => by intro j l j' _ _ h; cases h
 | k + 1, lo => by
  intro j l j' _ hj h
  rw [group] at h
  exact groupW_law (group_law s acc k (j + 1)) hj h
end Im
end Go.Proofs.YtogfnbkccfkpoaaGreatDoor
