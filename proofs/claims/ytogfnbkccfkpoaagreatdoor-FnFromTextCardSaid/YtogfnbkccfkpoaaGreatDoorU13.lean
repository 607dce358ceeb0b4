/- A part (13) of the proof of the row of laws.FnFromText: lemmas on Dsp, ImP, ImQ, ImR, ImS, Dst, ImT. No condition but what each statement says. -/
import Derived.Test.YtogfnbkccfkpoaaGreatDoorU12
import Derived.Lib.SlBytesConst
import Derived.Lib.ItoaLen
set_option linter.unusedSimpArgs false
set_option linter.unusedVariables false
set_option maxRecDepth 100000
set_option maxHeartbeats 400000
namespace Go.Proofs.YtogfnbkccfkpoaaGreatDoor
open Go Go.RowKit
open Eng
theorem Rep.relS {F : Nat → Prop} {w : World} {nm : List UInt8} {g : List IS} {vl : Value} (h : Rep F w (.rel nm g) (.iface 114 (.agg [str nm, vl].toArray))) : SLs F w g vl := by
 obtain ⟨vl', h1, h2⟩ := h.rel_iff
 simp at h1
 subst h1; exact h2
theorem Rep.compS {F : Nat → Prop} {w : World} {pe : List UInt8} {g : List IS} {vl : Value} (h : Rep F w (.comp g pe) (.iface 105 (.agg [vl, str pe].toArray))) : SLs F w g vl := by
 obtain ⟨vl', h1, h2⟩ := h.comp_iff
 simp at h1
 subst h1; exact h2
theorem Rep.combS {F : Nat → Prop} {w : World} {a b : IS} {c : Nat} {va vb : Value} (h : Rep F w (.comb a c b) (.iface 81 (.agg [va, .int .u8 (c : Int), vb].toArray))) : Rep F w a va ∧ Rep F w b vb := by
 rw [Rep] at h
 obtain ⟨va', vb', h1, h2, h3⟩ := h
 simp at h1
 obtain ⟨rfl, rfl⟩ := h1
 exact ⟨h2, h3⟩
theorem absSpec_of {v : Value} {Cl : World → Prop} (h : ∀ w : World, (callMethod v "Specificity" #[]).run PR w = .ok (.enter 171 #[.agg [].toArray]) w) : MCs "Specificity" v Cl fun w u w' => u = .agg (⟨0, 1, 0⟩ : Tr).cells.toArray ∧ Gr w w' none := ⟨171, _, h, fun w _ => absSpec_calls [] w⟩
theorem absPel_of {v : Value} {Cl : World → Prop} (h : ∀ w : World, (callMethod v "PseudoElement" #[]).run PR w = .ok (.enter 170 #[.agg [].toArray]) w) : MCs "PseudoElement" v Cl fun w u w' => u = str [] ∧ Gr w w' none := ⟨170, _, h, fun w _ => absPel_calls [] w⟩
theorem rel_callS (nm : List UInt8) (a : Option Addr) (m c : Nat) (w : World) : (callMethod (.iface 114 (.agg [str nm, .slice a m c].toArray)) "Specificity" #[]).run PR w = .ok (.enter 168 #[.agg [str nm, .slice a m c].toArray]) w := by kernel_rfl
theorem rel_callP (nm : List UInt8) (a : Option Addr) (m c : Nat) (w : World) : (callMethod (.iface 114 (.agg [str nm, .slice a m c].toArray)) "PseudoElement" #[]).run PR w = .ok (.enter 167 #[.agg [str nm, .slice a m c].toArray]) w := by kernel_rfl
theorem rel_callT (nm : List UInt8) (a : Option Addr) (m c : Nat) (w : World) : (callMethod (.iface 114 (.agg [str nm, .slice a m c].toArray)) "String" #[]).run PR w = .ok (.enter 169 #[.agg [str nm, .slice a m c].toArray]) w := by kernel_rfl
theorem comp_callS (nm : List UInt8) (a : Option Addr) (m c : Nat) (w : World) : (callMethod (.iface 105 (.agg [.slice a m c, str nm].toArray)) "Specificity" #[]).run PR w = .ok (.enter 164 #[.agg [.slice a m c, str nm].toArray]) w := by kernel_rfl
theorem comp_callP (nm : List UInt8) (a : Option Addr) (m c : Nat) (w : World) : (callMethod (.iface 105 (.agg [.slice a m c, str nm].toArray)) "PseudoElement" #[]).run PR w = .ok (.enter 163 #[.agg [.slice a m c, str nm].toArray]) w := by kernel_rfl
theorem comp_callT (nm : List UInt8) (a : Option Addr) (m c : Nat) (w : World) : (callMethod (.iface 105 (.agg [.slice a m c, str nm].toArray)) "String" #[]).run PR w = .ok (.enter 165 #[.agg [.slice a m c, str nm].toArray]) w := by kernel_rfl
theorem flat_callS (ty : Nat) (h : ty ∈ flats) (w : World) : (callMethod (.iface ty (.agg [].toArray)) "Specificity" #[]).run PR w = .ok (.enter 171 #[.agg [].toArray]) w := by
 simp only [flats, List.mem_cons, List.not_mem_nil, or_false] at h
 rcases h with h | h | h | h | h | h | h <;> rw [h] <;> kernel_rfl
theorem flat_callP (ty : Nat) (h : ty ∈ flats) (w : World) : (callMethod (.iface ty (.agg [].toArray)) "PseudoElement" #[]).run PR w = .ok (.enter 170 #[.agg [].toArray]) w := by
 simp only [flats, List.mem_cons, List.not_mem_nil, or_false] at h
 rcases h with h | h | h | h | h | h | h <;> rw [h] <;> kernel_rfl
theorem flat_spec (ty : Nat) (h : ty ∈ flats) : SpecOk (.flat ty) := fun F v w hr => by
 rw [Rep] at hr; subst hr
 have e : IS.spec (.flat ty) = ⟨0, 1, 0⟩ := by simp only [IS.spec]
 rw [e]
 exact absSpec_of fun w => flat_callS ty h w
theorem flat_pel (ty : Nat) (h : ty ∈ flats) : PelOk (.flat ty) := fun F v w hr => by
 rw [Rep] at hr; subst hr
 have e : IS.pel (.flat ty) = [] := by simp only [IS.pel]
 rw [e]
 exact absPel_of fun w => flat_callP ty h w
theorem comp_spec (g : List IS) (pe : List UInt8) (hw : IS.wtL g ≤ 1000000000) (io : ∀ x ∈ g, SpecOk x) : SpecOk (.comp g pe) := fun F v w h => by
 obtain ⟨vl, rfl, hS⟩ := h.comp_iff
 obtain ⟨va, vc, rfl⟩ := hS.any
 refine ⟨164, .agg [.slice va g.length vc, str pe].toArray, comp_callS pe va _ vc, ?_⟩
 intro w h
 exact compSpec_calls F g pe va vc w h.compS io hw
theorem comp_pel (g : List IS) (pe : List UInt8) : PelOk (.comp g pe) := fun F v w h => by
 obtain ⟨vl, rfl, hS⟩ := h.comp_iff
 obtain ⟨va, vc, rfl⟩ := hS.any
 refine ⟨163, .agg [.slice va g.length vc, str pe].toArray, comp_callP pe va _ vc, ?_⟩
 intro w h
 have hc := compPel_calls (.slice va g.length vc) rfl pe w
 rw [IS.pel]; exact hc
theorem comb_callS (ta tb : TypeId) (ua ub : Value) (c : Int) (w : World) : (callMethod (.iface 81 (.agg [.iface ta ua, .int .u8 c, .iface tb ub].toArray)) "Specificity" #[]).run PR w = .ok (.enter 142 #[.agg [.iface ta ua, .int .u8 c, .iface tb ub].toArray]) w := by kernel_rfl
theorem comb_callP (ta tb : TypeId) (ua ub : Value) (c : Int) (w : World) : (callMethod (.iface 81 (.agg [.iface ta ua, .int .u8 c, .iface tb ub].toArray)) "PseudoElement" #[]).run PR w = .ok (.enter 141 #[.agg [.iface ta ua, .int .u8 c, .iface tb ub].toArray]) w := by kernel_rfl
theorem comb_callT (ta tb : TypeId) (ua ub : Value) (c : Int) (w : World) : (callMethod (.iface 81 (.agg [.iface ta ua, .int .u8 c, .iface tb ub].toArray)) "String" #[]).run PR w = .ok (.enter 143 #[.agg [.iface ta ua, .int .u8 c, .iface tb ub].toArray]) w := by kernel_rfl
theorem Rep.comb_iff {F : Nat → Prop} {w : World} {a b : IS} {c : Nat} {v : Value} (h : Rep F w (.comb a c b) v) : ∃ ta ua tb ub, v = .iface 81 (.agg [.iface ta ua, .int .u8 (c : Int), .iface tb ub].toArray) := by
 rw [Rep] at h
 obtain ⟨va, vb, h1, ha, hb⟩ := h
 obtain ⟨ta, ua, rfl⟩ := ha.ifc
 obtain ⟨tb, ub, rfl⟩ := hb.ifc
 exact ⟨ta, ua, tb, ub, h1⟩
theorem comb_spec (a b : IS) (c : Nat) (hw : a.wt + b.wt ≤ 1000000000) (ia : SpecOk a) (ib : SpecOk b) : SpecOk (.comb a c b) := fun F v w h => by
 obtain ⟨ta, ua, tb, ub, rfl⟩ := h.comb_iff
 refine ⟨142, .agg [.iface ta ua, .int .u8 (c : Int), .iface tb ub].toArray, comb_callS ta tb ua ub _, ?_⟩
 intro w h
 have hc := combSpec_calls F a b c ta tb ua ub w h.combS.1 h.combS.2 ia ib hw
 rw [IS.spec]; exact hc
theorem comb_pel (a b : IS) (c : Nat) (ib : PelOk b) : PelOk (.comb a c b) := fun F v w h => by
 obtain ⟨ta, ua, tb, ub, rfl⟩ := h.comb_iff
 refine ⟨141, .agg [.iface ta ua, .int .u8 (c : Int), .iface tb ub].toArray, comb_callP ta tb ua ub _, ?_⟩
 intro w h
 have hc := combPel_calls F a b c ta tb ua ub w h.combS.2 ib
 rw [IS.pel]; exact hc
mutual
theorem spec_ok : ∀ (x : IS), x.Good → x.wt ≤ 1000000000 → SpecOk x
 | .tag t, _, _ => fun F v w h => by
  rw [Rep] at h; subst h; exact ⟨147, .agg [str t].toArray, fun w => by kernel_rfl, fun w _ => tagSpec_calls _ w⟩
 | .idt t, _, _ => fun F v w h => by
  rw [Rep] at h; subst h; exact ⟨151, .agg [str t].toArray, fun w => by kernel_rfl, fun w _ => idSpec_calls _ w⟩
 | .cls t, _, _ => fun F v w h => by
  rw [Rep] at h; subst h; exact ⟨156, .agg [str t].toArray, fun w => by kernel_rfl, fun w _ => clsSpec_calls _ w⟩
 | .attr k x o i, _, _ => fun F v w h => by
  rw [Rep] at h; subst h; exact ⟨160, .agg [str k, str x, str o, .bool i].toArray, fun w => by kernel_rfl, fun w _ => attrSpec_calls _ w⟩
 | .contains t o, _, _ => fun F v w h => by
  rw [Rep] at h; subst h; exact absSpec_of fun w => by kernel_rfl
 | .nth a b la ot, _, _ => fun F v w h => by
  rw [Rep] at h; subst h; exact absSpec_of fun w => by kernel_rfl
 | .only o, _, _ => fun F v w h => by
  rw [Rep] at h; subst h; exact absSpec_of fun w => by kernel_rfl
 | .lang t, _, _ => fun F v w h => by
  rw [Rep] at h; subst h; exact absSpec_of fun w => by kernel_rfl
 | .never t, _, _ => fun F v w h => by
  rw [Rep] at h; subst h; exact ⟨196, .agg [str t].toArray, fun w => by kernel_rfl, fun w _ => neverSpec_calls _ w⟩
 | .flat ty, hg, _ => flat_spec ty (by rw [IS.Good] at hg; exact hg)
 | .rel nm g, hg, hw => fun F v w h => by
  rw [IS.Good] at hg
  rw [IS.wt] at hw
  obtain ⟨vl, rfl, hS⟩ := h.rel_iff
  obtain ⟨va, vc, rfl⟩ := hS.any
  exact ⟨168, .agg [str nm, .slice va g.length vc].toArray, rel_callS nm va _ vc, fun w h => relSpec_calls F g nm va vc w h.relS (specL_ok g hg om) om⟩
 | .comp g pe, hg, hw => comp_spec g pe (by rw [IS.wt] at hw; omega) (specL_ok g (by rw [IS.Good] at hg; exact hg) (by rw [IS.wt] at hw; omega))
 | .comb a c b, hg, hw => comb_spec a b c (by rw [IS.wt] at hw; omega) (spec_ok a (by rw [IS.Good] at hg; exact hg.1) (by rw [IS.wt] at hw; omega)) (spec_ok b (by rw [IS.Good] at hg; exact hg.2.2) (by rw [IS.wt] at hw; omega))
theorem specL_ok : ∀ (l : List IS), IS.GoodL l → IS.wtL l ≤ 1000000000 → ∀ x ∈ l, SpecOk x
 | [], _, _ => fun x hx => by simp at hx
 | y :: r, hg, hw => fun x hx => by
  rw [IS.GoodL] at hg
  rw [IS.wtL] at hw
  rcases List.mem_cons.1 hx with h | h
  ·rw [h]; exact spec_ok y hg.1 om
  exact specL_ok r hg.2 om x h
end
theorem pel_ok : ∀ (x : IS), x.Good → PelOk x
 | .tag t, _ => fun F v w h => by
  rw [Rep] at h; subst h; exact ⟨146, .agg [str t].toArray, fun w => by kernel_rfl, fun w _ => tagPel_calls _ w⟩
 | .idt t, _ => fun F v w h => by
  rw [Rep] at h; subst h; exact ⟨150, .agg [str t].toArray, fun w => by kernel_rfl, fun w _ => idPel_calls _ w⟩
 | .cls t, _ => fun F v w h => by
  rw [Rep] at h; subst h; exact ⟨155, .agg [str t].toArray, fun w => by kernel_rfl, fun w _ => clsPel_calls _ w⟩
 | .attr k x o i, _ => fun F v w h => by
  rw [Rep] at h; subst h; exact ⟨159, .agg [str k, str x, str o, .bool i].toArray, fun w => by kernel_rfl, fun w _ => attrPel_calls _ w⟩
 | .contains t o, _ => fun F v w h => by
  rw [Rep] at h; subst h; exact absPel_of fun w => by kernel_rfl
 | .nth a b la ot, _ => fun F v w h => by
  rw [Rep] at h; subst h; exact absPel_of fun w => by kernel_rfl
 | .only o, _ => fun F v w h => by
  rw [Rep] at h; subst h; exact absPel_of fun w => by kernel_rfl
 | .lang t, _ => fun F v w h => by
  rw [Rep] at h; subst h; exact absPel_of fun w => by kernel_rfl
 | .never t, _ => fun F v w h => by
  rw [Rep] at h; subst h; exact ⟨195, .agg [str t].toArray, fun w => by kernel_rfl, fun w _ => neverPel_calls _ w⟩
 | .flat ty, hg => flat_pel ty (by rw [IS.Good] at hg; exact hg)
 | .rel nm g, _ => fun F v w h => by
  obtain ⟨vl, rfl, hS⟩ := h.rel_iff
  obtain ⟨va, vc, rfl⟩ := hS.any
  exact ⟨167, .agg [str nm, .slice va g.length vc].toArray, rel_callP nm va _ vc, fun w _ => relPel_calls _ w⟩
 | .comp g pe, _ => comp_pel g pe
 | .comb a c b, hg => comb_pel a b c (pel_ok b (by rw [IS.Good] at hg; exact hg.2.2))
end Go.Proofs.YtogfnbkccfkpoaaGreatDoor
set_option linter.unusedSectionVars false
set_option maxHeartbeats 1000000
namespace Go.Proofs.YtogfnbkccfkpoaaGreatDoor
open Go Go.RowKit
section
def CB (w : World) (b : Nat) (s : List UInt8) : Prop := w.heap[b]? = some (.cells (s.map byteV).toArray 5 (s.length, s.length + 1))
theorem CB.bb {w : World} {b : Nat} {s : List UInt8} (h : CB w b s) : BB w b s := ⟨[], (s.length, s.length + 1), by rw [List.append_nil]; exact h, fun k hk => by omega⟩
theorem CB.gr {w w' : World} {b : Nat} {s : List UInt8} {r : Option Nat} (h : CB w b s) (g : Gr w w' r) (hn : some b ≠ r) : CB w' b s := by
 have hl := h.bb.lt
 unfold CB at *
 rw [g.block b hl hn]; exact h
theorem CB.grN {w w' : World} {b : Nat} {s : List UInt8} (h : CB w b s) (g : Gr w w' none) : CB w' b s := h.gr g (by simp)
namespace Eng
section
variable [Df] {P : Program} {Q : Post} {ops : Array Oper} {rest : List Oper} {n : Nat} {l : Fr} {w : World} {d : Nat} {ty : TypeId} {pos : String} {af : Array Edge} {x : Operand} {t e : TypeId} {b m c : Nat} {v : Value}
theorem W.convB {s : List UInt8} (hx : ev l x = some (.slice (some ⟨b, 0, none⟩) m c)) (hb : Blk w b 5 (s.map byteV)) (ht : P.underlying t = some (.slice e)) (he : P.underlying e = some (.int .u8)) (hdn : Nat.blt d n = true)
 (h : ∀ w', CB w' b s → Gr w w' (some b) → W P ops Q n rest ((d, .slice (some ⟨b, 0, none⟩) m c) :: l) w') : W P ops Q n (⟨some d, .convert t t x, ty, pos, af, none⟩ :: rest) l w := by
 have hb' : w.heap[b]? = some (.cells (s.map byteV).toArray 5 (0, 0)) := hb
 have hsh : w.shape? b = some (5, (s.map byteV).toArray.size) := by
  unfold World.shape?; rw [hb']
 refine W.q (v := .slice (some ⟨b, 0, none⟩) m c) (w' := w.freeze ⟨b, (s.map byteV).toArray.size, none⟩ 1) ?_ rfl rfl hdn (h _ ?_ ?_)
 ·intro a ha
  simp only [execOp, ha.ev hx]
  simp [convert, run_underlying ht, run_underlying he, markStringish, hsh]
 ·unfold CB World.freeze
  rw [if_neg dC]
  simp only [Array.getElem?_modify, if_true, hb', Option.map_some]
  simp
 refine ⟨rfl, rfl, rfl, ?_, fun i hi hne => ?_⟩
 ·unfold World.freeze; rw [if_neg dC]; simp
 unfold World.freeze
 rw [if_neg dC]
 simp only [Array.getElem?_modify]
 rw [if_neg (fun e => hne (by rw [e]))]
def Ob (base : Nat) (w : World) (v : Value) (s : List UInt8) : Prop := w.ownsRow base 5 1 v s.length (s.map byteV)
theorem R.ofOb {base : Nat} {s : List UInt8} {dst : Option Nat} {g : Option (Nat × Bool)} {src dt : TypeId} (hx : ev l x = some v) (hs : P.underlying src = some (.slice 5)) (he : P.underlying 5 = some (.int .u8)) (hd : P.underlying dt = some .string) (hO : Ob base w v s) : Runs P n l ⟨dst, .convert src dt x, ty, pos, af, g⟩ w (.value (str s)) w := by
 rcases hO.2 with ⟨rfl, h0⟩ | ⟨k, cap, cur, rfl, -, hg, hn, -, hcs, ht⟩
 ·obtain rfl : s = [] := List.length_eq_zero_iff.1 h0
  intro a ha
  simp only [execOp, ha.ev hx]
  simp [convert, run_underlying hs, run_underlying he, run_underlying hd, Conv.bytesToString]
  rfl
 refine R.ofBytes hx hs he hd (s := s) ⟨cur.toList.drop (s.length * 1), (0, 0), ?_, fun k _ => by omega⟩ rfl
 rw [hg, ← ht, List.take_append_drop]
end
end Eng
open Eng
theorem Eng.Ob.grN {base : Nat} {w w' : World} {v : Value} {s : List UInt8} (h : Ob base w v s) (g : Gr w w' none) : Ob base w' v s := own_grN h g
theorem ob_ne {base b : Nat} {w : World} {v : Value} {o s : List UInt8} (h : Ob base w v o) (k : CB w b s) (hs : s ≠ []) : some b ≠ v.ownBlock := by
 rcases h.2 with ⟨rfl, -⟩ | ⟨g, cap, cur, rfl, -, hg, -⟩
 ·simp [Value.ownBlock]
 intro e
 simp only [Value.ownBlock, Option.some.injEq] at e
 subst e
 unfold CB at k
 rw [hg] at k
 simp only [Option.some.injEq, Obj.cells.injEq, Prod.mk.injEq] at k
 exact hs (List.length_eq_zero_iff.1 k.2.2.1.symm)
def Im.specials : List UInt8 := [44, 33, 34, 35, 36, 37, 38, 39, 40, 41, 42, 43, 32, 45, 46, 47, 58, 59, 60, 61, 62, 63, 64, 91, 92, 93, 94, 96, 123, 124, 125, 126]
def Im.slashes (c : UInt8) : List UInt8 → List UInt8
 | [] => []
 | x :: r => if c = x then 92 :: Im.slashes c r else Im.slashes c r
def Im.esc : List UInt8 → List UInt8
 | [] => []
 | c :: r => Im.slashes c Im.specials ++ c :: Im.esc r
theorem Im.slashes_le (c : UInt8) : ∀ l, (Im.slashes c l).length ≤ l.length
 | [] => Nat.le_refl _
 | x :: r => by
  have := Im.slashes_le c r
  rw [Im.slashes]; split <;> simp only [List.length_cons] <;> omega
theorem Im.esc_le : ∀ s, (Im.esc s).length ≤ 33 * s.length
 | [] => Nat.le_refl _
 | c :: r => by
  have h1 := Im.esc_le r
  have h2 := Im.slashes_le c Im.specials
  have h3 : Im.specials.length = 32 := rfl
  rw [Im.esc]
  simp only [List.length_append, List.length_cons]; omega
def Im.specPs : List (Nat × Value) := [(0, .int .u8 44), (1, .int .u8 33), (2, .int .u8 34), (3, .int .u8 35), (4, .int .u8 36), (5, .int .u8 37), (6, .int .u8 38), (7, .int .u8 39), (8, .int .u8 40), (9, .int .u8 41), (10, .int .u8 42), (11, .int .u8 43), (12, .int .u8 32), (13, .int .u8 45), (14, .int .u8 46), (15, .int .u8 47), (16, .int .u8 58), (17, .int .u8 59), (18, .int .u8 60), (19, .int .u8 61), (20, .int .u8 62), (21, .int .u8 63), (22, .int .u8 64), (23, .int .u8 91), (24, .int .u8 92), (25, .int .u8 93), (26, .int .u8 94), (27, .int .u8 96), (28, .int .u8 123), (29, .int .u8 124), (30, .int .u8 125), (31, .int .u8 126)]
theorem row83s : rowOf PR 83 32 Im.specPs = some (5, Im.specials.map byteV) := by kernel_rfl
theorem row83 (c : Nat) : rowOf PR 83 1 [(0, .int .u8 (c : Int))] = some (5, [.int .u8 (c : Int)]) := by kernel_rfl
theorem byteV_at {s : List UInt8} {i : Nat} (h : i < s.length) : byteV s[i] = .int .u8 (byteAt s i : Int) := by
 simp [byteV, byteAt, List.getD_eq_getElem?_getD, List.getElem?_eq_getElem h]
theorem drop_at {s : List UInt8} {i : Nat} (h : i < s.length) : s.drop i = s[i] :: s.drop (i + 1) := List.drop_eq_getElem_cons h
theorem byteAt_ne {s t : List UInt8} {i k : Nat} (h : i < s.length) (hk : k < t.length) : byteAt s i = byteAt t k ↔ s[i] = t[k] := by
 simp only [byteAt, List.getD_eq_getElem?_getD, List.getElem?_eq_getElem h, List.getElem?_eq_getElem hk, Option.getD_some]
 exact ⟨fun e => UInt8.toNat_inj.1 e, fun e => by rw [e]⟩
theorem esc_calls (s : List UInt8) (w0 : World) (hl : s.length ≤ 1000000000) :
 CR PR 153 [str s] w0 fun v w' => v = str (Im.esc s) ∧ Gr w0 w' none := by
 have hel := Im.esc_le s
 have hG : Gr w0 w0 none := Gr.refl _ _
 refine CR.of (n := 37) [(0, str s)] Tryz.func153 rfl Tryz.ntmps153 rfl ⟨rfl, trivial⟩<|qr<|pr 1 rfl<|nsqr<|pr 1 rfl<|ns<|C.cut (fun l w' => ∃ vb : Value, l = [(3, vb)] ∧ Ob w0.heap.size w' vb (Im.esc s) ∧ Gr w0 w' none) ?_ ?_
 ·refine qr<|pr 1 rfl<|ns<|rO ?_
  have hO : Ob w0.heap.size w0 (.slice none 0 0) [] := World.ownsRow_nil w0 _ 5 1
  refine sB [(0, str s), (3, .slice none 0 0), (4, .int .i64 ((0 : Nat) : Int))] rfl<|C.loop (fun m l w' => ∃ (vb : Value) (out : List UInt8) (i : Nat), l = [(0, str s), (3, vb), (4, .int .i64 (i : Int))] ∧ Ob w0.heap.size w' vb out ∧ Gr w0 w' none ∧ out ++ Im.esc (s.drop i) = Im.esc s ∧ i + m = s.length) (s.length) (⟨_, [], 0, rfl, hO, hG, rfl, om⟩) ?_
  rintro m l w ⟨vb, out, i, rfl, hO, hG, hE, hm⟩
  refine qqr<|pr 2 rfl<|qq (R.lenS rfl u9) rfl<|qq (R.ltI rfl rfl) rfl<|ns<|cD rfl (fun h1 => ?_) fun h1 => ?_
  ·try norm_cast at h1
   refine ksq<|rO<|C.cut (fun l w' => ∃ (vb : Value) (out : List UInt8), l = [(0, str s), (3, vb), (4, .int .i64 (i : Int))] ∧ Ob w0.heap.size w' vb out ∧ Gr w0 w' none ∧ out ++ (s[i] :: Im.esc (s.drop (i + 1))) = Im.esc s) ?_ ?_
   ·refine rQ ?_
    have hol := congrArg List.length hE
    simp only [List.length_append, List.length_cons] at hol
    refine rR ?_
    have hpn := own_old hO (Nat.le_refl _)
    have hcw := hG.size
    refine W.buildSlice (ps := Im.specPs) (fun a ha => by simp [Act.eval, Im.specPs]) row83s rfl fun w cb hcz hC hv => ?_
    rw [← hcz] at hpn hcw
    have hO := hO.grN hv
    have hG := hG.trans hv
    refine W.convB (s := Im.specials) rfl hC u83 u5 rfl fun w hCB hv => ?_
    have hO : Ob w0.heap.size w vb out := own_kept hO hv hpn
    have hG := hG.fresh hv hcw
    refine qq (R.lenL rfl slq83) rfl<|pr 1 rfl<|ns<|rO ?_
    have hil : i < s.length := by omega
    rw [drop_at hil, Im.esc] at hE
    refine sB [(0, str s), (3, vb), (4, .int .i64 (i : Int)), (14, .slice (some ⟨cb, 0, none⟩) 32 32), (15, .int .i64 ((32 : Nat) : Int)), (16, .int .i64 ((0 : Nat) : Int))] rfl<|C.loop (fun m' l w' => ∃ (vb : Value) (out : List UInt8) (k : Nat), l = [(0, str s), (3, vb), (4, .int .i64 (i : Int)), (14, .slice (some ⟨cb, 0, none⟩) 32 32), (15, .int .i64 ((32 : Nat) : Int)), (16, .int .i64 (k : Int))] ∧ Ob w0.heap.size w' vb out ∧ CB w' cb Im.specials ∧ Gr w0 w' none ∧ out ++ (Im.slashes s[i] (Im.specials.drop k) ++ s[i] :: Im.esc (s.drop (i + 1))) = Im.esc s ∧ k + m' = 32) (32) (⟨_, out, 0, rfl, hO, hCB, hG, hE, om⟩) ?_
    rintro m' l w ⟨vb, out, k, rfl, hO, hCB, hG, hI, hk⟩
    refine qr<|qq (R.ltI rfl rfl) rfl<|nsq<|cD rfl (fun h2 => ?_) fun h2 => ?_
    ·try norm_cast at h2
     refine ksq<|rO<|qr<|qq (R.idxB rfl rfl k rfl om sl83) rfl<|qq (R.loadB sc5 rfl hCB.bb (by rw [show Im.specials.length = 32 from rfl]; omega)) rfl<|pr 1 rfl<|nsqr<|pr 2 rfl<|qq (R.idxS rfl rfl _ rfl om u9) rfl<|pr 1 rfl<|qq (R.eqI rfl rfl) rfl<|ns<|cD rfl (fun h3 => ?_) fun h3 => ?_
     ·try norm_cast at h3
      have hol := congrArg List.length hI
      simp only [List.length_append, List.length_cons] at hol
      refine rR<|pr 1 rfl<|W.buildSlice (ps := [(0, .int .u8 (92 : Int))]) (fun a ha => by simp [Act.eval]) (row83 92) rfl fun w kb hkz hK hv => ?_
      have hO := hO.grN hv
      have hG := hG.trans hv
      have hCB := hCB.grN hv
      have hO0 := hO
      refine W.append el83 rfl hO rfl (news := [.int .u8 (92 : Int)]) rfl (fun j u hj => by cases j with | zero => simp at hj; subst hj; exact hK.cell rfl | succ j => simp at hj) (fun u hu => by simp at hu; subst hu; rfl) (by simp only [maxLen]; omega) om hG.size rfl fun vb w hO hv => ?_
      have hO : Ob w0.heap.size w vb (out ++ [92]) := by rw [Ob, List.length_append, List.map_append]; exact hO
      have hCB := hCB.gr hv (ob_ne hO0 hCB dC)
      have hG := Gr.own hG hv hO0
      refine pr 1 rfl<|nbs<|rR<|aK rfl rfl<|pr 1 rfl<|rN ?_
      have hk32 : k < Im.specials.length := by rw [show Im.specials.length = 32 from rfl]; omega
      rw [drop_at hk32, Im.slashes, if_pos ((byteAt_ne om hk32).1 aM)] at hI
      exact cT [(0, str s), (3, vb), (4, .int .i64 (i : Int)), (14, .slice (some ⟨cb, 0, none⟩) 32 32), (15, .int .i64 ((32 : Nat) : Int)), (16, .int .i64 ((k + 1 : Nat) : Int))] rfl ⟨m' - 1, om, vb, out ++ [92], k + 1, rfl, hO, hCB, hG, by rw [List.append_assoc]; exact hI, om⟩
     try norm_cast at h3
     refine rK<|bS<|rR<|aK rfl rfl<|pr 1 rfl<|rN ?_
     have hk32 : k < Im.specials.length := by rw [show Im.specials.length = 32 from rfl]; omega
     rw [drop_at hk32, Im.slashes, if_neg (fun hq => (by assumption : ¬ byteAt s i = byteAt Im.specials k) ((byteAt_ne om hk32).2 hq))] at hI
     exact cT [(0, str s), (3, vb), (4, .int .i64 (i : Int)), (14, .slice (some ⟨cb, 0, none⟩) 32 32), (15, .int .i64 ((32 : Nat) : Int)), (16, .int .i64 ((k + 1 : Nat) : Int))] rfl ⟨m' - 1, om, vb, out, k + 1, rfl, hO, hCB, hG, hI, om⟩
    try norm_cast at h2
    refine rE<|rX<|rX<|rY ?_
    obtain rfl : k = 32 := by omega
    have hE3 : out ++ (s[i] :: Im.esc (s.drop (i + 1))) = Im.esc s := hI
    exact cT [(0, str s), (3, vb), (4, .int .i64 (i : Int))] rfl ⟨vb, out, rfl, hO, hG, hE3⟩
   rintro l w ⟨vb, out, rfl, hO, hG, hE3⟩
   have hol := congrArg List.length hE3
   simp only [List.length_append, List.length_cons] at hol
   refine rR<|pr 3 rfl<|qq (R.idxS rfl rfl _ rfl om u9) rfl<|W.buildSlice (ps := [(0, .int .u8 (byteAt s i : Int))]) (fun a ha => by simp [ha.ev (x := .tmp 32) rfl]) (row83 (byteAt s i)) rfl fun w kb hkz hK hv => ?_
   have hO := hO.grN hv
   have hG := hG.trans hv
   have hbv := byteV_at (s := s) (i := i) om
   have hO0 := hO
   refine W.append el83 rfl hO rfl (news := [.int .u8 (byteAt s i : Int)]) rfl (fun j u hj => by cases j with | zero => simp at hj; subst hj; exact hK.cell rfl | succ j => simp at hj) (fun u hu => by simp at hu; subst hu; rfl) (by simp only [maxLen]; omega) om hG.size rfl fun vb w hO hv => ?_
   have hO : Ob w0.heap.size w vb (out ++ [s[i]]) := by rw [Ob, List.length_append, List.map_append, List.map_cons, List.map_nil, hbv]; exact hO
   have hG := Gr.own hG hv hO0
   refine pr 1 rfl<|nbs<|rR<|pr 1 rfl<|aK rfl rfl<|pr 1 rfl<|rN ?_
   have hE2 : (out ++ [s[i]]) ++ Im.esc (s.drop (i + 1)) = Im.esc s := by rw [← hE3, List.append_assoc]; rfl
   exact cT [(0, str s), (3, vb), (4, .int .i64 ((i + 1 : Nat) : Int))] rfl ⟨m - 1, om, vb, _, i + 1, rfl, hO, hG, hE2, om⟩
  try norm_cast at h1
  refine rE<|rX<|rX<|rY ?_
  obtain rfl : i = s.length := by omega
  rw [List.drop_length, Im.esc, List.append_nil] at hE
  rw [hE] at hO
  exact cT [(3, vb)] rfl ⟨vb, rfl, hO, hG⟩
 rintro l w ⟨vb, rfl, hO, hG⟩
 exact qr<|pr 1 rfl<|qq (R.ofOb rfl u83 u5 u9 hO) rfl<|pr 1 rfl<|nst<|rA rfl rfl ⟨rfl, hG⟩
end
end Go.Proofs.YtogfnbkccfkpoaaGreatDoor
namespace Go.Proofs.YtogfnbkccfkpoaaGreatDoor
open Go Go.RowKit
open Eng
def TAB (B : Nat) (w : World) : Prop := Lib.TabIs PR w "internal/strconv.uint64pow10" .u64 Lib.pow10Tab ∧ ∀ g, PR.globalNamed "internal/strconv.uint64pow10" = some g → g < B
theorem TAB.gr {B : Nat} {w w' : World} {r : Option Nat} (h : TAB B w) (g : Gr w w' r) (hr : ∀ k, r = some k → B ≤ k) : TAB B w' := by
 refine ⟨?_, h.2⟩
 have h1 := h.1
 unfold Lib.TabIs World.var? at *
 cases hq : PR.globalNamed "internal/strconv.uint64pow10" with
 | none => rw [hq] at h1; cases h1
 | some k =>
  rw [hq] at h1
  have hk := h.2 k hq
  simp only [Option.bind_some] at h1 ⊢
  have hlt : k < w.heap.size := by
   rcases Nat.lt_or_ge k w.heap.size with h2 | h2
   ·exact h2
   rw [Array.getElem?_eq_none h2] at h1; cases h1
  rw [g.block k hlt (fun e => by have := hr k e.symm; omega)]
  exact h1
theorem TAB.grN {B : Nat} {w w' : World} (h : TAB B w) (g : Gr w w' none) : TAB B w' := h.gr g (by simp)
theorem fo136_0 : fieldOff PR 136 0 = some 0 := by kernel_rfl
theorem gr_grow (w : World) (k : Nat) (os : Array Obj) : Gr w (Go.Sort.grow (w.drewN k) os) none := ⟨rfl, rfl, rfl, by simp [Go.Sort.grow, World.drewN], fun i hi _ => by simp [Go.Sort.grow, World.drewN, Array.getElem?_append, hi]⟩
theorem itoa_calls (n : Int) (B : Nat) (w0 : World) (hn : Im.Fits n) (hT : TAB B w0) : CR PR 107 [.int .i64 n] w0 fun v w' => v = str (Lib.itoa n) ∧ Gr w0 w' none := by
 refine Calls.mono (Tryz.strconv_Itoa n (by have := hn.1; omega) (by have := hn.2; omega) w0 hT.1) ?_
 rintro e w' ⟨rfl, k, os, rfl⟩
 exact ⟨_, rfl, rfl, gr_grow w0 k os⟩
theorem eq206 (a b c d : Bool) (w : World) : (binOp .eql 206 (.agg #[.bool a, .bool b]) (.agg #[.bool c, .bool d])).run PR w = .ok (.bool (a == c && b == d)) w := by
 cases a <;> cases b <;> cases c <;> cases d <;> kernel_rfl
theorem gd206 (a b c d : Bool) (x y : Operand) (w : World) : (eqGuard .eql 206 x y (.agg #[.bool a, .bool b]) (.agg #[.bool c, .bool d])).run PR w = .ok () w := by
 cases a <;> cases b <;> cases c <;> cases d <;> rfl
theorem R.eq206 {n : Nat} {l : Fr} {w : World} {dst : Option Nat} {ty : TypeId} {pos : String} {af : Array Edge} {g : Option (Nat × Bool)} {x y : Operand} {u : TypeId} {a b c d : Bool} (hx : ev l x = some (.agg [.bool a, .bool b].toArray)) (hy : ev l y = some (.agg [.bool c, .bool d].toArray)) : Runs PR n l ⟨dst, .binOp .eql 206 x y u, ty, pos, af, g⟩ w (.value (.bool (a == c && b == d))) w := fun i hi => by
 have h1 := Go.Proofs.YtogfnbkccfkpoaaGreatDoor.eq206 a b c d w
 have h2 := gd206 a b c d x y w
 simp only [execOp, hi.ev hx, hi.ev hy]
 simp [h1, h2]
theorem tagStr_calls (t : List UInt8) (w0 : World) (hl : t.length ≤ 1000000000) :
 CR PR 148 [.agg [str t].toArray] w0 fun v w' => v = str (t) ∧ Gr w0 w' none := by
 have hG : Gr w0 w0 none := Gr.refl _ _
 refine CR.of (n := 5) [(0, .agg [str t].toArray)] Tryz.func148 rfl Tryz.ntmps148 rfl ⟨rfl, trivial⟩<|qr<|W.box (vs := [str t]) rfl rfl rfl fun w q1 hq1 hB hv => ?_
 have hG := hG.trans hv
 exact pr 1 rfl<|nsqr<|fA fo87_0 rfl<|lD sc9 hB rfl rfl<|pr 1 rfl<|nst<|rA rfl rfl ⟨rfl, hG⟩
theorem neverStr_calls (t : List UInt8) (w0 : World) (hl : t.length ≤ 1000000000) :
 CR PR 197 [.agg [str t].toArray] w0 fun v w' => v = str (t) ∧ Gr w0 w' none := by
 have hG : Gr w0 w0 none := Gr.refl _ _
 refine CR.of (n := 5) [(0, .agg [str t].toArray)] Tryz.func197 rfl Tryz.ntmps197 rfl ⟨rfl, trivial⟩<|qr<|W.box (vs := [str t]) rfl rfl rfl fun w q1 hq1 hB hv => ?_
 have hG := hG.trans hv
 exact pr 1 rfl<|nsqr<|fA fo136_0 rfl<|lD sc9 hB rfl rfl<|pr 1 rfl<|nst<|rA rfl rfl ⟨rfl, hG⟩
theorem idStr_calls (t : List UInt8) (w0 : World) (hl : t.length ≤ 1000000000) :
 CR PR 152 [.agg [str t].toArray] w0 fun v w' => v = str ([35] ++ Im.esc t) ∧ Gr w0 w' none := by
 have hel := Im.esc_le t
 have hG : Gr w0 w0 none := Gr.refl _ _
 refine CR.of (n := 7) [(0, .agg [str t].toArray)] Tryz.func152 rfl Tryz.ntmps152 rfl ⟨rfl, trivial⟩<|qr<|W.box (vs := [str t]) rfl rfl rfl fun w q1 hq1 hB hv => ?_
 have hG := hG.trans hv
 refine pr 1 rfl<|nsqr<|fA fo91_0 rfl<|lD sc9 hB rfl rfl<|eN en153 rfl (esc_calls _ _ hl) fun v w hv => ?_
 obtain ⟨rfl, hv⟩ := hv
 have hG := hG.trans hv
 have hB := hB.grN hv
 exact aS rfl rfl<|pr 1 rfl<|nst<|rA rfl rfl ⟨rfl, hG⟩
theorem clsStr_calls (t : List UInt8) (w0 : World) (hl : t.length ≤ 1000000000) :
 CR PR 157 [.agg [str t].toArray] w0 fun v w' => v = str ([46] ++ Im.esc t) ∧ Gr w0 w' none := by
 have hel := Im.esc_le t
 have hG : Gr w0 w0 none := Gr.refl _ _
 refine CR.of (n := 7) [(0, .agg [str t].toArray)] Tryz.func157 rfl Tryz.ntmps157 rfl ⟨rfl, trivial⟩<|qr<|W.box (vs := [str t]) rfl rfl rfl fun w q1 hq1 hB hv => ?_
 have hG := hG.trans hv
 refine pr 1 rfl<|nsqr<|fA fo95_0 rfl<|lD sc9 hB rfl rfl<|eN en153 rfl (esc_calls _ _ hl) fun v w hv => ?_
 obtain ⟨rfl, hv⟩ := hv
 have hG := hG.trans hv
 have hB := hB.grN hv
 exact aS rfl rfl<|pr 1 rfl<|nst<|rA rfl rfl ⟨rfl, hG⟩
theorem langStr_calls (t : List UInt8) (w0 : World) (hl : t.length ≤ 1000000000) :
 CR PR 187 [.agg [str t].toArray] w0 fun v w' => v = str ([58, 108, 97, 110, 103, 40] ++ t ++ [41]) ∧ Gr w0 w' none := by
 have hG : Gr w0 w0 none := Gr.refl _ _
 refine CR.of (n := 7) [(0, .agg [str t].toArray)] Tryz.func187 rfl Tryz.ntmps187 rfl ⟨rfl, trivial⟩<|qr<|W.box (vs := [str t]) rfl rfl rfl fun w q1 hq1 hB hv => ?_
 have hG := hG.trans hv
 exact pr 1 rfl<|nsqr<|fA fo131_1 rfl<|lD sc9 hB rfl rfl<|aS rfl rfl<|aS rfl rfl<|pr 1 rfl<|nst<|rA rfl rfl ⟨rfl, hG⟩
theorem onlyStr_calls (o : Bool) (w0 : World) :
 CR PR 177 [.agg [.bool o].toArray] w0 fun v w' => v = str (if o then [58, 111, 110, 108, 121, 45, 111, 102, 45, 116, 121, 112, 101] else [58, 111, 110, 108, 121, 45, 99, 104, 105, 108, 100]) ∧ Gr w0 w' none := by
 have hG : Gr w0 w0 none := Gr.refl _ _
 refine CR.of (n := 5) [(0, .agg [.bool o].toArray)] Tryz.func177 rfl Tryz.ntmps177 rfl ⟨rfl, trivial⟩<|qr<|W.box (vs := [.bool o]) rfl rfl rfl fun w q1 hq1 hB hv => ?_
 have hG := hG.trans hv
 refine pr 1 rfl<|nsq<|qr<|fA fo124_1 rfl<|lD sc4 hB rfl rfl<|ns<|cC rfl (fun h1 => ?_) (fun h1 => ?_)
 ·try simp only [Bool.not_eq_true', Bool.not_eq_false'] at h1
  subst h1
  exact qr<|pr 1 rfl<|nsth<|rA rfl rfl ⟨rfl, hG⟩
 try simp only [Bool.not_eq_true', Bool.not_eq_false'] at h1
 subst h1
 exact ksqr<|pr 1 rfl<|nst<|rA rfl rfl ⟨rfl, hG⟩
theorem inputStr_calls (vs : List Value) (w0 : World) :
 CR PR 179 [.agg vs.toArray] w0 fun v w' => v = str [58, 105, 110, 112, 117, 116] ∧ Gr w0 w' none := by
 have hG : Gr w0 w0 none := Gr.refl _ _
 refine CR.of (n := 3) [(0, .agg vs.toArray)] Tryz.func179 rfl Tryz.ntmps179 rfl ⟨rfl, trivial⟩<|qr<|W.box (vs := vs) rfl rfl rfl fun w q1 hq1 hB hv => ?_
 have hG := hG.trans hv
 exact pr 1 rfl<|nsqr<|pr 1 rfl<|nst<|rA rfl rfl ⟨rfl, hG⟩
theorem emptyStr_calls (vs : List Value) (w0 : World) :
 CR PR 181 [.agg vs.toArray] w0 fun v w' => v = str [58, 101, 109, 112, 116, 121] ∧ Gr w0 w' none := by
 have hG : Gr w0 w0 none := Gr.refl _ _
 refine CR.of (n := 3) [(0, .agg vs.toArray)] Tryz.func181 rfl Tryz.ntmps181 rfl ⟨rfl, trivial⟩<|qr<|W.box (vs := vs) rfl rfl rfl fun w q1 hq1 hB hv => ?_
 have hG := hG.trans hv
 exact pr 1 rfl<|nsqr<|pr 1 rfl<|nst<|rA rfl rfl ⟨rfl, hG⟩
theorem rootStr_calls (vs : List Value) (w0 : World) :
 CR PR 183 [.agg vs.toArray] w0 fun v w' => v = str [58, 114, 111, 111, 116] ∧ Gr w0 w' none := by
 have hG : Gr w0 w0 none := Gr.refl _ _
 refine CR.of (n := 3) [(0, .agg vs.toArray)] Tryz.func183 rfl Tryz.ntmps183 rfl ⟨rfl, trivial⟩<|qr<|W.box (vs := vs) rfl rfl rfl fun w q1 hq1 hB hv => ?_
 have hG := hG.trans hv
 exact pr 1 rfl<|nsqr<|pr 1 rfl<|nst<|rA rfl rfl ⟨rfl, hG⟩
theorem linkStr_calls (vs : List Value) (w0 : World) :
 CR PR 185 [.agg vs.toArray] w0 fun v w' => v = str [58, 108, 105, 110, 107] ∧ Gr w0 w' none := by
 have hG : Gr w0 w0 none := Gr.refl _ _
 refine CR.of (n := 3) [(0, .agg vs.toArray)] Tryz.func185 rfl Tryz.ntmps185 rfl ⟨rfl, trivial⟩<|qr<|W.box (vs := vs) rfl rfl rfl fun w q1 hq1 hB hv => ?_
 have hG := hG.trans hv
 exact pr 1 rfl<|nsqr<|pr 1 rfl<|nst<|rA rfl rfl ⟨rfl, hG⟩
theorem enabledStr_calls (vs : List Value) (w0 : World) :
 CR PR 189 [.agg vs.toArray] w0 fun v w' => v = str [58, 101, 110, 97, 98, 108, 101, 100] ∧ Gr w0 w' none := by
 have hG : Gr w0 w0 none := Gr.refl _ _
 refine CR.of (n := 3) [(0, .agg vs.toArray)] Tryz.func189 rfl Tryz.ntmps189 rfl ⟨rfl, trivial⟩<|qr<|W.box (vs := vs) rfl rfl rfl fun w q1 hq1 hB hv => ?_
 have hG := hG.trans hv
 exact pr 1 rfl<|nsqr<|pr 1 rfl<|nst<|rA rfl rfl ⟨rfl, hG⟩
theorem disabledStr_calls (vs : List Value) (w0 : World) :
 CR PR 191 [.agg vs.toArray] w0 fun v w' => v = str [58, 100, 105, 115, 97, 98, 108, 101, 100] ∧ Gr w0 w' none := by
 have hG : Gr w0 w0 none := Gr.refl _ _
 refine CR.of (n := 3) [(0, .agg vs.toArray)] Tryz.func191 rfl Tryz.ntmps191 rfl ⟨rfl, trivial⟩<|qr<|W.box (vs := vs) rfl rfl rfl fun w q1 hq1 hB hv => ?_
 have hG := hG.trans hv
 exact pr 1 rfl<|nsqr<|pr 1 rfl<|nst<|rA rfl rfl ⟨rfl, hG⟩
theorem checkedStr_calls (vs : List Value) (w0 : World) :
 CR PR 193 [.agg vs.toArray] w0 fun v w' => v = str [58, 99, 104, 101, 99, 107, 101, 100] ∧ Gr w0 w' none := by
 have hG : Gr w0 w0 none := Gr.refl _ _
 refine CR.of (n := 3) [(0, .agg vs.toArray)] Tryz.func193 rfl Tryz.ntmps193 rfl ⟨rfl, trivial⟩<|qr<|W.box (vs := vs) rfl rfl rfl fun w q1 hq1 hB hv => ?_
 have hG := hG.trans hv
 exact pr 1 rfl<|nsqr<|pr 1 rfl<|nst<|rA rfl rfl ⟨rfl, hG⟩
def Im.containsT (t : List UInt8) (o : Bool) : List UInt8 := [58] ++ (if o then [99, 111, 110, 116, 97, 105, 110, 115, 79, 119, 110] else [99, 111, 110, 116, 97, 105, 110, 115]) ++ [40, 34] ++ t ++ [34, 41]
theorem containsStr_calls (t : List UInt8) (o : Bool) (w0 : World) (hl : t.length ≤ 1000000000) :
 CR PR 173 [.agg [str t, .bool o].toArray] w0 fun v w' => v = str (Im.containsT t o) ∧ Gr w0 w' none := by
 have hG : Gr w0 w0 none := Gr.refl _ _
 refine CR.of (n := 15) [(0, .agg [str t, .bool o].toArray)] Tryz.func173 rfl Tryz.ntmps173 rfl ⟨rfl, trivial⟩<|qr<|W.box (vs := [str t, .bool o]) rfl rfl rfl fun w q1 hq1 hB hv => ?_
 have hG := hG.trans hv
 refine pr 1 rfl<|nsqr<|pr 1 rfl<|nsq<|qr<|fA fo118_2 rfl<|lD sc4 hB rfl rfl<|ns<|cC rfl (fun h1 => ?_) (fun h1 => ?_)
 ·try simp only [Bool.not_eq_true', Bool.not_eq_false'] at h1
  subst h1
  exact rR<|pr 1 rfl<|aS rfl rfl<|pr 1 rfl<|nsqr<|pr 1 rfl<|aS rfl rfl<|aS rfl rfl<|fA fo118_1 rfl<|lD sc9 hB rfl rfl<|aS rfl rfl<|aS rfl rfl<|pr 1 rfl<|nst<|rA rfl rfl ⟨rfl, hG⟩
 try simp only [Bool.not_eq_true', Bool.not_eq_false'] at h1
 subst h1
 exact ksqr<|pr 1 rfl<|aS rfl rfl<|aS rfl rfl<|fA fo118_1 rfl<|lD sc9 hB rfl rfl<|aS rfl rfl<|aS rfl rfl<|pr 1 rfl<|nst<|rA rfl rfl ⟨rfl, hG⟩
def Im.attrT (k x o : List UInt8) (ins : Bool) : List UInt8 := [91] ++ k ++ o ++ (if o = [] then x else [34] ++ x ++ [34]) ++ (if ins then [32, 105] else []) ++ [93]
theorem attrStr_calls (k x o : List UInt8) (ins : Bool) (w0 : World) (hk : k.length ≤ 1000000000) (hx : x.length ≤ 1000000000) (ho : o.length ≤ 1000000000) :
 CR PR 161 [.agg [str k, str x, str o, .bool ins].toArray] w0 fun v w' => v = str (Im.attrT k x o ins) ∧ Gr w0 w' none := by
 have hG : Gr w0 w0 none := Gr.refl _ _
 refine CR.of (n := 26) [(0, .agg [str k, str x, str o, .bool ins].toArray)] Tryz.func161 rfl Tryz.ntmps161 rfl ⟨rfl, trivial⟩<|qr<|W.box (vs := [str k, str x, str o, .bool ins]) rfl rfl rfl fun w q1 hq1 hB hv => ?_
 have hG := hG.trans hv
 refine pr 1 rfl<|nsqr<|fA fo99_1 rfl<|lD sc9 hB rfl rfl<|pr 1 rfl<|nsq<|qr<|fA fo99_2 rfl<|lD sc9 hB rfl rfl<|qq (R.neS rfl rfl) rfl<|ns<|cD rfl (fun h1 => ?_) fun h1 => ?_
 ·refine rR<|pr 1 rfl<|aS rfl rfl<|aS rfl rfl<|pr 1 rfl<|nsqr<|pr 1 rfl<|nsq<|qr<|fA fo99_3 rfl<|lD sc4 hB rfl rfl<|ns<|cC rfl (fun h2 => ?_) (fun h2 => ?_)
  ·try simp only [Bool.not_eq_true', Bool.not_eq_false'] at h2
   subst h2
   refine rR<|pr 1 rfl<|nsqr<|fA fo99_0 rfl<|lD sc9 hB rfl rfl<|aS rfl rfl<|fA fo99_2 rfl<|lD sc9 hB rfl rfl<|aS rfl rfl<|pr 1 rfl<|aS rfl rfl<|pr 1 rfl<|aS rfl rfl<|aS rfl rfl<|pr 1 rfl<|nst<|rA rfl rfl ⟨congrArg str ?_, hG⟩
   rw [Im.attrT, if_neg aM]; rfl
  try simp only [Bool.not_eq_true', Bool.not_eq_false'] at h2
  subst h2
  refine ksqr<|fA fo99_0 rfl<|lD sc9 hB rfl rfl<|aS rfl rfl<|fA fo99_2 rfl<|lD sc9 hB rfl rfl<|aS rfl rfl<|pr 1 rfl<|aS rfl rfl<|pr 1 rfl<|aS rfl rfl<|aS rfl rfl<|pr 1 rfl<|nst<|rA rfl rfl ⟨congrArg str ?_, hG⟩
  rw [Im.attrT, if_neg aM]; rfl
 refine ksqr<|pr 1 rfl<|nsq<|qr<|fA fo99_3 rfl<|lD sc4 hB rfl rfl<|ns<|cC rfl (fun h3 => ?_) (fun h3 => ?_)
 ·try simp only [Bool.not_eq_true', Bool.not_eq_false'] at h3
  subst h3
  refine rR<|pr 1 rfl<|nsqr<|fA fo99_0 rfl<|lD sc9 hB rfl rfl<|aS rfl rfl<|fA fo99_2 rfl<|lD sc9 hB rfl rfl<|aS rfl rfl<|pr 1 rfl<|aS rfl rfl<|pr 1 rfl<|aS rfl rfl<|aS rfl rfl<|pr 1 rfl<|nst<|rA rfl rfl ⟨congrArg str ?_, hG⟩
  rw [Im.attrT, if_pos (Decidable.not_not.1 aM)]; rfl
 try simp only [Bool.not_eq_true', Bool.not_eq_false'] at h3
 subst h3
 refine ksqr<|fA fo99_0 rfl<|lD sc9 hB rfl rfl<|aS rfl rfl<|fA fo99_2 rfl<|lD sc9 hB rfl rfl<|aS rfl rfl<|pr 1 rfl<|aS rfl rfl<|pr 1 rfl<|aS rfl rfl<|aS rfl rfl<|pr 1 rfl<|nst<|rA rfl rfl ⟨congrArg str ?_, hG⟩
 rw [Im.attrT, if_pos (Decidable.not_not.1 aM)]; rfl
def TABs (w : World) : Prop := Lib.TabIs PR w "internal/strconv.uint64pow10" .u64 Lib.pow10Tab
theorem TABs.tab {w : World} (h : TABs w) : TAB w.heap.size w := by
 refine ⟨h, fun g hg => ?_⟩
 unfold TABs Lib.TabIs World.var? at h
 rw [hg] at h
 simp only [Option.bind_some] at h
 rcases Nat.lt_or_ge g w.heap.size with h2 | h2
 ·exact h2
 rw [Array.getElem?_eq_none h2] at h; cases h
def SM (x : IS) (t : List UInt8) : Prop := ∀ (F : Nat → Prop) (v : Value) (w : World), Rep F w x v → MCs "String" v (fun w => Rep F w x v ∧ TABs w) fun w u w' => u = str t ∧ Gr w w' none
def StrOk (x : IS) : Prop := ∃ t : List UInt8, t.length ≤ 40 * x.wt + 40 ∧ SM x t
def Im.nthName : Bool → Bool → List UInt8
 | true, true => [110, 116, 104, 45, 108, 97, 115, 116, 45, 111, 102, 45, 116, 121, 112, 101]
 | true, false => [110, 116, 104, 45, 108, 97, 115, 116, 45, 99, 104, 105, 108, 100]
 | false, true => [110, 116, 104, 45, 111, 102, 45, 116, 121, 112, 101]
 | false, false => [110, 116, 104, 45, 99, 104, 105, 108, 100]
def Im.nthT (a b : Int) (la ot : Bool) : List UInt8 :=
 if a = 0 ∧ b = 1 then (if la then [58, 108, 97, 115, 116, 45] else [58, 102, 105, 114, 115, 116, 45]) ++ (if ot then [111, 102, 45, 116, 121, 112, 101] else [99, 104, 105, 108, 100])
 else [58] ++ Im.nthName la ot ++ [40] ++ Lib.itoa a ++ [110] ++ (if b < 0 then Lib.itoa b else [43] ++ Lib.itoa b) ++ [41]
theorem nthStr_calls (a b : Int) (la ot : Bool) (w0 : World) (hfa : Im.Fits a) (hfb : Im.Fits b) (hT : TABs w0) :
 CR PR 175 [.agg [.int .i64 a, .int .i64 b, .bool la, .bool ot].toArray] w0 fun v w' => v = str (Im.nthT a b la ot) ∧ Gr w0 w' none := by
 have hT := hT.tab
 have hla := Lib.itoa_length_le a (by have := hfa.1; omega) (by have := hfa.2; omega)
 have hlb := Lib.itoa_length_le b (by have := hfb.1; omega) (by have := hfb.2; omega)
 have hG : Gr w0 w0 none := Gr.refl _ _
 refine CR.of (n := 61) [(0, .agg [.int .i64 a, .int .i64 b, .bool la, .bool ot].toArray)] Tryz.func175 rfl Tryz.ntmps175 rfl ⟨rfl, trivial⟩<|qr<|W.box (vs := [.int .i64 a, .int .i64 b, .bool la, .bool ot]) rfl rfl rfl fun w q1 hq1 hB hv => ?_
 have hT := hT.grN hv
 have hG := hG.trans hv
 refine pr 1 rfl<|nsq<|qr<|fA fo122_1 rfl<|lD sc3 hB rfl rfl<|W.split (R.eqI rfl rfl) rfl rfl rfl (fun h1 => ?_) (fun h1 => ?_)
 ·refine pr 1 rfl<|gg (R.fieldAddr fo122_2 rfl) rfl<|gg (R.load sc3 rfl hB rfl) rfl<|W.gsplit rfl (R.eqI rfl rfl) rfl rfl rfl (fun h2 => ?_) (fun h2 => ?_)
  ·refine pr 1 rfl<|ns<|cV rfl<|qr<|pr 1 rfl<|nsq<|qr<|fA fo122_3 rfl<|lD sc4 hB rfl rfl<|ns<|cC rfl (fun h3 => ?_) (fun h3 => ?_)
   ·try simp only [Bool.not_eq_true', Bool.not_eq_false'] at h3
    subst h3
    refine rR<|pr 1 rfl<|nsq<|qr<|fA fo122_4 rfl<|lD sc4 hB rfl rfl<|ns<|cC rfl (fun h4 => ?_) (fun h4 => ?_)
    ·try simp only [Bool.not_eq_true', Bool.not_eq_false'] at h4
     subst h4
     refine rR<|pr 1 rfl<|aS rfl rfl<|pr 1 rfl<|nsqr<|pr 2 rfl<|nsth<|rA rfl rfl ⟨congrArg str ?_, hG⟩
     rw [Im.nthT, if_pos ⟨by assumption, by assumption⟩]; rfl
    try simp only [Bool.not_eq_true', Bool.not_eq_false'] at h4
    subst h4
    refine rR<|pr 1 rfl<|aS rfl rfl<|pr 1 rfl<|nsqr<|pr 2 rfl<|nsth<|rA rfl rfl ⟨congrArg str ?_, hG⟩
    rw [Im.nthT, if_pos ⟨by assumption, by assumption⟩]; rfl
   try simp only [Bool.not_eq_true', Bool.not_eq_false'] at h3
   subst h3
   refine ksq<|qr<|fA fo122_4 rfl<|lD sc4 hB rfl rfl<|ns<|cC rfl (fun h5 => ?_) (fun h5 => ?_)
   ·try simp only [Bool.not_eq_true', Bool.not_eq_false'] at h5
    subst h5
    refine rR<|pr 1 rfl<|aS rfl rfl<|pr 1 rfl<|nsqr<|pr 2 rfl<|nsth<|rA rfl rfl ⟨congrArg str ?_, hG⟩
    rw [Im.nthT, if_pos ⟨by assumption, by assumption⟩]; rfl
   try simp only [Bool.not_eq_true', Bool.not_eq_false'] at h5
   subst h5
   refine rR<|pr 1 rfl<|aS rfl rfl<|pr 1 rfl<|nsqr<|pr 2 rfl<|nsth<|rA rfl rfl ⟨congrArg str ?_, hG⟩
   rw [Im.nthT, if_pos ⟨by assumption, by assumption⟩]; rfl
  refine pr 1 rfl<|ns<|cF rfl<|ksqr<|pr 1 rfl<|nsq<|rQ ?_
  rcases la with _ | _ <;> rcases ot with _ | _
  ·refine rR<|fA fo122_3 rfl<|lD sc4 hB rfl rfl<|fA fo122_4 rfl<|lD sc4 hB rfl rfl<|qq (R.build (vs := [.bool false, .bool false]) (ps := [(0, .bool false), (1, .bool false)]) (fun a ha => by simp [ha.ev (x := .tmp 24) rfl, ha.ev (x := .tmp 26) rfl]) kR) rfl<|ns<|rO<|qr<|qq (R.build (vs := [.bool true, .bool true]) (ps := [(0, .bool true), (1, .bool true)]) (fun a ha => by simp [Act.eval]) kR) rfl<|qq (R.eq206 rfl rfl) rfl<|pr 1 rfl<|ns<|cF rfl<|qr<|qq (R.build (vs := [.bool true, .bool false]) (ps := [(0, .bool true), (1, .bool false)]) (fun a ha => by simp [Act.eval]) kR) rfl<|qq (R.eq206 rfl rfl) rfl<|pr 1 rfl<|ns<|cF rfl<|qr<|qq (R.build (vs := [.bool false, .bool true]) (ps := [(0, .bool false), (1, .bool true)]) (fun a ha => by simp [Act.eval]) kR) rfl<|qq (R.eq206 rfl rfl) rfl<|pr 1 rfl<|ns<|cF rfl<|qr<|qq (R.build (vs := [.bool false, .bool false]) (ps := [(0, .bool false), (1, .bool false)]) (fun a ha => by simp [Act.eval]) kR) rfl<|qq (R.eq206 rfl rfl) rfl<|pr 1 rfl<|ns<|cV rfl<|rR<|pr 1 rfl<|nbs<|qr<|fA fo122_2 rfl<|lD sc3 hB rfl rfl<|eN en107 rfl (itoa_calls b _ _ hfb hT) fun v w hv => ?_
   obtain ⟨rfl, hv⟩ := hv
   have hT := hT.grN hv
   have hB := hB.grN hv
   have hG := hG.trans hv
   refine aS rfl rfl<|pr 1 rfl<|nsq<|qr<|fA fo122_2 rfl<|lD sc3 hB rfl rfl<|qq (R.ltI rfl rfl) rfl<|ns<|cD rfl (fun h6 => ?_) fun h6 => ?_
   ·refine rR<|fA fo122_2 rfl<|lD sc3 hB rfl rfl<|eN en107 rfl (itoa_calls b _ _ hfb hT) fun v w hv => ?_
    obtain ⟨rfl, hv⟩ := hv
    have hT := hT.grN hv
    have hB := hB.grN hv
    have hG := hG.trans hv
    refine pr 1 rfl<|nsqr<|pr 1 rfl<|aS rfl rfl<|aS rfl rfl<|fA fo122_1 rfl<|lD sc3 hB rfl rfl<|eN en107 rfl (itoa_calls a _ _ hfa hT) fun v w hv => ?_
    obtain ⟨rfl, hv⟩ := hv
    have hT := hT.grN hv
    have hB := hB.grN hv
    have hG := hG.trans hv
    refine aS rfl rfl<|aS rfl rfl<|pr 1 rfl<|aS rfl rfl<|aS rfl rfl<|pr 1 rfl<|nst<|rA rfl rfl ⟨congrArg str ?_, hG⟩
    rw [Im.nthT, if_neg (fun hq => by first | exact absurd hq.1 aM | exact absurd hq.2 aM), if_pos aM]; rfl
   refine ksqr<|pr 1 rfl<|aS rfl rfl<|aS rfl rfl<|fA fo122_1 rfl<|lD sc3 hB rfl rfl<|eN en107 rfl (itoa_calls a _ _ hfa hT) fun v w hv => ?_
   obtain ⟨rfl, hv⟩ := hv
   have hT := hT.grN hv
   have hB := hB.grN hv
   have hG := hG.trans hv
   refine aS rfl rfl<|aS rfl rfl<|pr 1 rfl<|aS rfl rfl<|aS rfl rfl<|pr 1 rfl<|nst<|rA rfl rfl ⟨congrArg str ?_, hG⟩
   rw [Im.nthT, if_neg (fun hq => by first | exact absurd hq.1 aM | exact absurd hq.2 aM), if_neg aM]; rfl
  ·refine rR<|fA fo122_3 rfl<|lD sc4 hB rfl rfl<|fA fo122_4 rfl<|lD sc4 hB rfl rfl<|qq (R.build (vs := [.bool false, .bool true]) (ps := [(0, .bool false), (1, .bool true)]) (fun a ha => by simp [ha.ev (x := .tmp 24) rfl, ha.ev (x := .tmp 26) rfl]) kR) rfl<|ns<|rO<|qr<|qq (R.build (vs := [.bool true, .bool true]) (ps := [(0, .bool true), (1, .bool true)]) (fun a ha => by simp [Act.eval]) kR) rfl<|qq (R.eq206 rfl rfl) rfl<|pr 1 rfl<|ns<|cF rfl<|qr<|qq (R.build (vs := [.bool true, .bool false]) (ps := [(0, .bool true), (1, .bool false)]) (fun a ha => by simp [Act.eval]) kR) rfl<|qq (R.eq206 rfl rfl) rfl<|pr 1 rfl<|ns<|cF rfl<|qr<|qq (R.build (vs := [.bool false, .bool true]) (ps := [(0, .bool false), (1, .bool true)]) (fun a ha => by simp [Act.eval]) kR) rfl<|qq (R.eq206 rfl rfl) rfl<|pr 1 rfl<|ns<|cV rfl<|rR<|pr 1 rfl<|nbs<|qr<|fA fo122_2 rfl<|lD sc3 hB rfl rfl<|eN en107 rfl (itoa_calls b _ _ hfb hT) fun v w hv => ?_
   obtain ⟨rfl, hv⟩ := hv
   have hT := hT.grN hv
   have hB := hB.grN hv
   have hG := hG.trans hv
   refine aS rfl rfl<|pr 1 rfl<|nsq<|qr<|fA fo122_2 rfl<|lD sc3 hB rfl rfl<|qq (R.ltI rfl rfl) rfl<|ns<|cD rfl (fun h7 => ?_) fun h7 => ?_
   ·refine rR<|fA fo122_2 rfl<|lD sc3 hB rfl rfl<|eN en107 rfl (itoa_calls b _ _ hfb hT) fun v w hv => ?_
    obtain ⟨rfl, hv⟩ := hv
    have hT := hT.grN hv
    have hB := hB.grN hv
    have hG := hG.trans hv
    refine pr 1 rfl<|nsqr<|pr 1 rfl<|aS rfl rfl<|aS rfl rfl<|fA fo122_1 rfl<|lD sc3 hB rfl rfl<|eN en107 rfl (itoa_calls a _ _ hfa hT) fun v w hv => ?_
    obtain ⟨rfl, hv⟩ := hv
    have hT := hT.grN hv
    have hB := hB.grN hv
    have hG := hG.trans hv
    refine aS rfl rfl<|aS rfl rfl<|pr 1 rfl<|aS rfl rfl<|aS rfl rfl<|pr 1 rfl<|nst<|rA rfl rfl ⟨congrArg str ?_, hG⟩
    rw [Im.nthT, if_neg (fun hq => by first | exact absurd hq.1 aM | exact absurd hq.2 aM), if_pos aM]; rfl
   refine ksqr<|pr 1 rfl<|aS rfl rfl<|aS rfl rfl<|fA fo122_1 rfl<|lD sc3 hB rfl rfl<|eN en107 rfl (itoa_calls a _ _ hfa hT) fun v w hv => ?_
   obtain ⟨rfl, hv⟩ := hv
   have hT := hT.grN hv
   have hB := hB.grN hv
   have hG := hG.trans hv
   refine aS rfl rfl<|aS rfl rfl<|pr 1 rfl<|aS rfl rfl<|aS rfl rfl<|pr 1 rfl<|nst<|rA rfl rfl ⟨congrArg str ?_, hG⟩
   rw [Im.nthT, if_neg (fun hq => by first | exact absurd hq.1 aM | exact absurd hq.2 aM), if_neg aM]; rfl
  ·refine rR<|fA fo122_3 rfl<|lD sc4 hB rfl rfl<|fA fo122_4 rfl<|lD sc4 hB rfl rfl<|qq (R.build (vs := [.bool true, .bool false]) (ps := [(0, .bool true), (1, .bool false)]) (fun a ha => by simp [ha.ev (x := .tmp 24) rfl, ha.ev (x := .tmp 26) rfl]) kR) rfl<|ns<|rO<|qr<|qq (R.build (vs := [.bool true, .bool true]) (ps := [(0, .bool true), (1, .bool true)]) (fun a ha => by simp [Act.eval]) kR) rfl<|qq (R.eq206 rfl rfl) rfl<|pr 1 rfl<|ns<|cF rfl<|qr<|qq (R.build (vs := [.bool true, .bool false]) (ps := [(0, .bool true), (1, .bool false)]) (fun a ha => by simp [Act.eval]) kR) rfl<|qq (R.eq206 rfl rfl) rfl<|pr 1 rfl<|ns<|cV rfl<|rR<|pr 1 rfl<|nbs<|qr<|fA fo122_2 rfl<|lD sc3 hB rfl rfl<|eN en107 rfl (itoa_calls b _ _ hfb hT) fun v w hv => ?_
   obtain ⟨rfl, hv⟩ := hv
   have hT := hT.grN hv
   have hB := hB.grN hv
   have hG := hG.trans hv
   refine aS rfl rfl<|pr 1 rfl<|nsq<|qr<|fA fo122_2 rfl<|lD sc3 hB rfl rfl<|qq (R.ltI rfl rfl) rfl<|ns<|cD rfl (fun h8 => ?_) fun h8 => ?_
   ·refine rR<|fA fo122_2 rfl<|lD sc3 hB rfl rfl<|eN en107 rfl (itoa_calls b _ _ hfb hT) fun v w hv => ?_
    obtain ⟨rfl, hv⟩ := hv
    have hT := hT.grN hv
    have hB := hB.grN hv
    have hG := hG.trans hv
    refine pr 1 rfl<|nsqr<|pr 1 rfl<|aS rfl rfl<|aS rfl rfl<|fA fo122_1 rfl<|lD sc3 hB rfl rfl<|eN en107 rfl (itoa_calls a _ _ hfa hT) fun v w hv => ?_
    obtain ⟨rfl, hv⟩ := hv
    have hT := hT.grN hv
    have hB := hB.grN hv
    have hG := hG.trans hv
    refine aS rfl rfl<|aS rfl rfl<|pr 1 rfl<|aS rfl rfl<|aS rfl rfl<|pr 1 rfl<|nst<|rA rfl rfl ⟨congrArg str ?_, hG⟩
    rw [Im.nthT, if_neg (fun hq => by first | exact absurd hq.1 aM | exact absurd hq.2 aM), if_pos aM]; rfl
   refine ksqr<|pr 1 rfl<|aS rfl rfl<|aS rfl rfl<|fA fo122_1 rfl<|lD sc3 hB rfl rfl<|eN en107 rfl (itoa_calls a _ _ hfa hT) fun v w hv => ?_
   obtain ⟨rfl, hv⟩ := hv
   have hT := hT.grN hv
   have hB := hB.grN hv
   have hG := hG.trans hv
   refine aS rfl rfl<|aS rfl rfl<|pr 1 rfl<|aS rfl rfl<|aS rfl rfl<|pr 1 rfl<|nst<|rA rfl rfl ⟨congrArg str ?_, hG⟩
   rw [Im.nthT, if_neg (fun hq => by first | exact absurd hq.1 aM | exact absurd hq.2 aM), if_neg aM]; rfl
  refine rR<|fA fo122_3 rfl<|lD sc4 hB rfl rfl<|fA fo122_4 rfl<|lD sc4 hB rfl rfl<|qq (R.build (vs := [.bool true, .bool true]) (ps := [(0, .bool true), (1, .bool true)]) (fun a ha => by simp [ha.ev (x := .tmp 24) rfl, ha.ev (x := .tmp 26) rfl]) kR) rfl<|ns<|rO<|qr<|qq (R.build (vs := [.bool true, .bool true]) (ps := [(0, .bool true), (1, .bool true)]) (fun a ha => by simp [Act.eval]) kR) rfl<|qq (R.eq206 rfl rfl) rfl<|pr 1 rfl<|ns<|cV rfl<|rR<|pr 1 rfl<|nbs<|qr<|fA fo122_2 rfl<|lD sc3 hB rfl rfl<|eN en107 rfl (itoa_calls b _ _ hfb hT) fun v w hv => ?_
  obtain ⟨rfl, hv⟩ := hv
  have hT := hT.grN hv
  have hB := hB.grN hv
  have hG := hG.trans hv
  refine aS rfl rfl<|pr 1 rfl<|nsq<|qr<|fA fo122_2 rfl<|lD sc3 hB rfl rfl<|qq (R.ltI rfl rfl) rfl<|ns<|cD rfl (fun h9 => ?_) fun h9 => ?_
  ·refine rR<|fA fo122_2 rfl<|lD sc3 hB rfl rfl<|eN en107 rfl (itoa_calls b _ _ hfb hT) fun v w hv => ?_
   obtain ⟨rfl, hv⟩ := hv
   have hT := hT.grN hv
   have hB := hB.grN hv
   have hG := hG.trans hv
   refine pr 1 rfl<|nsqr<|pr 1 rfl<|aS rfl rfl<|aS rfl rfl<|fA fo122_1 rfl<|lD sc3 hB rfl rfl<|eN en107 rfl (itoa_calls a _ _ hfa hT) fun v w hv => ?_
   obtain ⟨rfl, hv⟩ := hv
   have hT := hT.grN hv
   have hB := hB.grN hv
   have hG := hG.trans hv
   refine aS rfl rfl<|aS rfl rfl<|pr 1 rfl<|aS rfl rfl<|aS rfl rfl<|pr 1 rfl<|nst<|rA rfl rfl ⟨congrArg str ?_, hG⟩
   rw [Im.nthT, if_neg (fun hq => by first | exact absurd hq.1 aM | exact absurd hq.2 aM), if_pos aM]; rfl
  refine ksqr<|pr 1 rfl<|aS rfl rfl<|aS rfl rfl<|fA fo122_1 rfl<|lD sc3 hB rfl rfl<|eN en107 rfl (itoa_calls a _ _ hfa hT) fun v w hv => ?_
  obtain ⟨rfl, hv⟩ := hv
  have hT := hT.grN hv
  have hB := hB.grN hv
  have hG := hG.trans hv
  refine aS rfl rfl<|aS rfl rfl<|pr 1 rfl<|aS rfl rfl<|aS rfl rfl<|pr 1 rfl<|nst<|rA rfl rfl ⟨congrArg str ?_, hG⟩
  rw [Im.nthT, if_neg (fun hq => by first | exact absurd hq.1 aM | exact absurd hq.2 aM), if_neg aM]; rfl
 refine pr 5 rfl<|ns<|cF rfl<|ksqr<|pr 1 rfl<|nsq<|rQ ?_
 rcases la with _ | _ <;> rcases ot with _ | _
 ·refine rR<|fA fo122_3 rfl<|lD sc4 hB rfl rfl<|fA fo122_4 rfl<|lD sc4 hB rfl rfl<|qq (R.build (vs := [.bool false, .bool false]) (ps := [(0, .bool false), (1, .bool false)]) (fun a ha => by simp [ha.ev (x := .tmp 24) rfl, ha.ev (x := .tmp 26) rfl]) kR) rfl<|ns<|rO<|qr<|qq (R.build (vs := [.bool true, .bool true]) (ps := [(0, .bool true), (1, .bool true)]) (fun a ha => by simp [Act.eval]) kR) rfl<|qq (R.eq206 rfl rfl) rfl<|pr 1 rfl<|ns<|cF rfl<|qr<|qq (R.build (vs := [.bool true, .bool false]) (ps := [(0, .bool true), (1, .bool false)]) (fun a ha => by simp [Act.eval]) kR) rfl<|qq (R.eq206 rfl rfl) rfl<|pr 1 rfl<|ns<|cF rfl<|qr<|qq (R.build (vs := [.bool false, .bool true]) (ps := [(0, .bool false), (1, .bool true)]) (fun a ha => by simp [Act.eval]) kR) rfl<|qq (R.eq206 rfl rfl) rfl<|pr 1 rfl<|ns<|cF rfl<|qr<|qq (R.build (vs := [.bool false, .bool false]) (ps := [(0, .bool false), (1, .bool false)]) (fun a ha => by simp [Act.eval]) kR) rfl<|qq (R.eq206 rfl rfl) rfl<|pr 1 rfl<|ns<|cV rfl<|rR<|pr 1 rfl<|nbs<|qr<|fA fo122_2 rfl<|lD sc3 hB rfl rfl<|eN en107 rfl (itoa_calls b _ _ hfb hT) fun v w hv => ?_
  obtain ⟨rfl, hv⟩ := hv
  have hT := hT.grN hv
  have hB := hB.grN hv
  have hG := hG.trans hv
  refine aS rfl rfl<|pr 1 rfl<|nsq<|qr<|fA fo122_2 rfl<|lD sc3 hB rfl rfl<|qq (R.ltI rfl rfl) rfl<|ns<|cD rfl (fun h10 => ?_) fun h10 => ?_
  ·refine rR<|fA fo122_2 rfl<|lD sc3 hB rfl rfl<|eN en107 rfl (itoa_calls b _ _ hfb hT) fun v w hv => ?_
   obtain ⟨rfl, hv⟩ := hv
   have hT := hT.grN hv
   have hB := hB.grN hv
   have hG := hG.trans hv
   refine pr 1 rfl<|nsqr<|pr 1 rfl<|aS rfl rfl<|aS rfl rfl<|fA fo122_1 rfl<|lD sc3 hB rfl rfl<|eN en107 rfl (itoa_calls a _ _ hfa hT) fun v w hv => ?_
   obtain ⟨rfl, hv⟩ := hv
   have hT := hT.grN hv
   have hB := hB.grN hv
   have hG := hG.trans hv
   refine aS rfl rfl<|aS rfl rfl<|pr 1 rfl<|aS rfl rfl<|aS rfl rfl<|pr 1 rfl<|nst<|rA rfl rfl ⟨congrArg str ?_, hG⟩
   rw [Im.nthT, if_neg (fun hq => by first | exact absurd hq.1 aM | exact absurd hq.2 aM), if_pos aM]; rfl
  refine ksqr<|pr 1 rfl<|aS rfl rfl<|aS rfl rfl<|fA fo122_1 rfl<|lD sc3 hB rfl rfl<|eN en107 rfl (itoa_calls a _ _ hfa hT) fun v w hv => ?_
  obtain ⟨rfl, hv⟩ := hv
  have hT := hT.grN hv
  have hB := hB.grN hv
  have hG := hG.trans hv
  refine aS rfl rfl<|aS rfl rfl<|pr 1 rfl<|aS rfl rfl<|aS rfl rfl<|pr 1 rfl<|nst<|rA rfl rfl ⟨congrArg str ?_, hG⟩
  rw [Im.nthT, if_neg (fun hq => by first | exact absurd hq.1 aM | exact absurd hq.2 aM), if_neg aM]; rfl
 ·refine rR<|fA fo122_3 rfl<|lD sc4 hB rfl rfl<|fA fo122_4 rfl<|lD sc4 hB rfl rfl<|qq (R.build (vs := [.bool false, .bool true]) (ps := [(0, .bool false), (1, .bool true)]) (fun a ha => by simp [ha.ev (x := .tmp 24) rfl, ha.ev (x := .tmp 26) rfl]) kR) rfl<|ns<|rO<|qr<|qq (R.build (vs := [.bool true, .bool true]) (ps := [(0, .bool true), (1, .bool true)]) (fun a ha => by simp [Act.eval]) kR) rfl<|qq (R.eq206 rfl rfl) rfl<|pr 1 rfl<|ns<|cF rfl<|qr<|qq (R.build (vs := [.bool true, .bool false]) (ps := [(0, .bool true), (1, .bool false)]) (fun a ha => by simp [Act.eval]) kR) rfl<|qq (R.eq206 rfl rfl) rfl<|pr 1 rfl<|ns<|cF rfl<|qr<|qq (R.build (vs := [.bool false, .bool true]) (ps := [(0, .bool false), (1, .bool true)]) (fun a ha => by simp [Act.eval]) kR) rfl<|qq (R.eq206 rfl rfl) rfl<|pr 1 rfl<|ns<|cV rfl<|rR<|pr 1 rfl<|nbs<|qr<|fA fo122_2 rfl<|lD sc3 hB rfl rfl<|eN en107 rfl (itoa_calls b _ _ hfb hT) fun v w hv => ?_
  obtain ⟨rfl, hv⟩ := hv
  have hT := hT.grN hv
  have hB := hB.grN hv
  have hG := hG.trans hv
  refine aS rfl rfl<|pr 1 rfl<|nsq<|qr<|fA fo122_2 rfl<|lD sc3 hB rfl rfl<|qq (R.ltI rfl rfl) rfl<|ns<|cD rfl (fun h11 => ?_) fun h11 => ?_
  ·refine rR<|fA fo122_2 rfl<|lD sc3 hB rfl rfl<|eN en107 rfl (itoa_calls b _ _ hfb hT) fun v w hv => ?_
   obtain ⟨rfl, hv⟩ := hv
   have hT := hT.grN hv
   have hB := hB.grN hv
   have hG := hG.trans hv
   refine pr 1 rfl<|nsqr<|pr 1 rfl<|aS rfl rfl<|aS rfl rfl<|fA fo122_1 rfl<|lD sc3 hB rfl rfl<|eN en107 rfl (itoa_calls a _ _ hfa hT) fun v w hv => ?_
   obtain ⟨rfl, hv⟩ := hv
   have hT := hT.grN hv
   have hB := hB.grN hv
   have hG := hG.trans hv
   refine aS rfl rfl<|aS rfl rfl<|pr 1 rfl<|aS rfl rfl<|aS rfl rfl<|pr 1 rfl<|nst<|rA rfl rfl ⟨congrArg str ?_, hG⟩
   rw [Im.nthT, if_neg (fun hq => by first | exact absurd hq.1 aM | exact absurd hq.2 aM), if_pos aM]; rfl
  refine ksqr<|pr 1 rfl<|aS rfl rfl<|aS rfl rfl<|fA fo122_1 rfl<|lD sc3 hB rfl rfl<|eN en107 rfl (itoa_calls a _ _ hfa hT) fun v w hv => ?_
  obtain ⟨rfl, hv⟩ := hv
  have hT := hT.grN hv
  have hB := hB.grN hv
  have hG := hG.trans hv
  refine aS rfl rfl<|aS rfl rfl<|pr 1 rfl<|aS rfl rfl<|aS rfl rfl<|pr 1 rfl<|nst<|rA rfl rfl ⟨congrArg str ?_, hG⟩
  rw [Im.nthT, if_neg (fun hq => by first | exact absurd hq.1 aM | exact absurd hq.2 aM), if_neg aM]; rfl
 ·refine rR<|fA fo122_3 rfl<|lD sc4 hB rfl rfl<|fA fo122_4 rfl<|lD sc4 hB rfl rfl<|qq (R.build (vs := [.bool true, .bool false]) (ps := [(0, .bool true), (1, .bool false)]) (fun a ha => by simp [ha.ev (x := .tmp 24) rfl, ha.ev (x := .tmp 26) rfl]) kR) rfl<|ns<|rO<|qr<|qq (R.build (vs := [.bool true, .bool true]) (ps := [(0, .bool true), (1, .bool true)]) (fun a ha => by simp [Act.eval]) kR) rfl<|qq (R.eq206 rfl rfl) rfl<|pr 1 rfl<|ns<|cF rfl<|qr<|qq (R.build (vs := [.bool true, .bool false]) (ps := [(0, .bool true), (1, .bool false)]) (fun a ha => by simp [Act.eval]) kR) rfl<|qq (R.eq206 rfl rfl) rfl<|pr 1 rfl<|ns<|cV rfl<|rR<|pr 1 rfl<|nbs<|qr<|fA fo122_2 rfl<|lD sc3 hB rfl rfl<|eN en107 rfl (itoa_calls b _ _ hfb hT) fun v w hv => ?_
  obtain ⟨rfl, hv⟩ := hv
  have hT := hT.grN hv
  have hB := hB.grN hv
  have hG := hG.trans hv
  refine aS rfl rfl<|pr 1 rfl<|nsq<|qr<|fA fo122_2 rfl<|lD sc3 hB rfl rfl<|qq (R.ltI rfl rfl) rfl<|ns<|cD rfl (fun h12 => ?_) fun h12 => ?_
  ·refine rR<|fA fo122_2 rfl<|lD sc3 hB rfl rfl<|eN en107 rfl (itoa_calls b _ _ hfb hT) fun v w hv => ?_
   obtain ⟨rfl, hv⟩ := hv
   have hT := hT.grN hv
   have hB := hB.grN hv
   have hG := hG.trans hv
   refine pr 1 rfl<|nsqr<|pr 1 rfl<|aS rfl rfl<|aS rfl rfl<|fA fo122_1 rfl<|lD sc3 hB rfl rfl<|eN en107 rfl (itoa_calls a _ _ hfa hT) fun v w hv => ?_
   obtain ⟨rfl, hv⟩ := hv
   have hT := hT.grN hv
   have hB := hB.grN hv
   have hG := hG.trans hv
   refine aS rfl rfl<|aS rfl rfl<|pr 1 rfl<|aS rfl rfl<|aS rfl rfl<|pr 1 rfl<|nst<|rA rfl rfl ⟨congrArg str ?_, hG⟩
   rw [Im.nthT, if_neg (fun hq => by first | exact absurd hq.1 aM | exact absurd hq.2 aM), if_pos aM]; rfl
  refine ksqr<|pr 1 rfl<|aS rfl rfl<|aS rfl rfl<|fA fo122_1 rfl<|lD sc3 hB rfl rfl<|eN en107 rfl (itoa_calls a _ _ hfa hT) fun v w hv => ?_
  obtain ⟨rfl, hv⟩ := hv
  have hT := hT.grN hv
  have hB := hB.grN hv
  have hG := hG.trans hv
  refine aS rfl rfl<|aS rfl rfl<|pr 1 rfl<|aS rfl rfl<|aS rfl rfl<|pr 1 rfl<|nst<|rA rfl rfl ⟨congrArg str ?_, hG⟩
  rw [Im.nthT, if_neg (fun hq => by first | exact absurd hq.1 aM | exact absurd hq.2 aM), if_neg aM]; rfl
 refine rR<|fA fo122_3 rfl<|lD sc4 hB rfl rfl<|fA fo122_4 rfl<|lD sc4 hB rfl rfl<|qq (R.build (vs := [.bool true, .bool true]) (ps := [(0, .bool true), (1, .bool true)]) (fun a ha => by simp [ha.ev (x := .tmp 24) rfl, ha.ev (x := .tmp 26) rfl]) kR) rfl<|ns<|rO<|qr<|qq (R.build (vs := [.bool true, .bool true]) (ps := [(0, .bool true), (1, .bool true)]) (fun a ha => by simp [Act.eval]) kR) rfl<|qq (R.eq206 rfl rfl) rfl<|pr 1 rfl<|ns<|cV rfl<|rR<|pr 1 rfl<|nbs<|qr<|fA fo122_2 rfl<|lD sc3 hB rfl rfl<|eN en107 rfl (itoa_calls b _ _ hfb hT) fun v w hv => ?_
 obtain ⟨rfl, hv⟩ := hv
 have hT := hT.grN hv
 have hB := hB.grN hv
 have hG := hG.trans hv
 refine aS rfl rfl<|pr 1 rfl<|nsq<|qr<|fA fo122_2 rfl<|lD sc3 hB rfl rfl<|qq (R.ltI rfl rfl) rfl<|ns<|cD rfl (fun h13 => ?_) fun h13 => ?_
 ·refine rR<|fA fo122_2 rfl<|lD sc3 hB rfl rfl<|eN en107 rfl (itoa_calls b _ _ hfb hT) fun v w hv => ?_
  obtain ⟨rfl, hv⟩ := hv
  have hT := hT.grN hv
  have hB := hB.grN hv
  have hG := hG.trans hv
  refine pr 1 rfl<|nsqr<|pr 1 rfl<|aS rfl rfl<|aS rfl rfl<|fA fo122_1 rfl<|lD sc3 hB rfl rfl<|eN en107 rfl (itoa_calls a _ _ hfa hT) fun v w hv => ?_
  obtain ⟨rfl, hv⟩ := hv
  have hT := hT.grN hv
  have hB := hB.grN hv
  have hG := hG.trans hv
  refine aS rfl rfl<|aS rfl rfl<|pr 1 rfl<|aS rfl rfl<|aS rfl rfl<|pr 1 rfl<|nst<|rA rfl rfl ⟨congrArg str ?_, hG⟩
  rw [Im.nthT, if_neg (fun hq => by first | exact absurd hq.1 aM | exact absurd hq.2 aM), if_pos aM]; rfl
 refine ksqr<|pr 1 rfl<|aS rfl rfl<|aS rfl rfl<|fA fo122_1 rfl<|lD sc3 hB rfl rfl<|eN en107 rfl (itoa_calls a _ _ hfa hT) fun v w hv => ?_
 obtain ⟨rfl, hv⟩ := hv
 have hT := hT.grN hv
 have hB := hB.grN hv
 have hG := hG.trans hv
 refine aS rfl rfl<|aS rfl rfl<|pr 1 rfl<|aS rfl rfl<|aS rfl rfl<|pr 1 rfl<|nst<|rA rfl rfl ⟨congrArg str ?_, hG⟩
 rw [Im.nthT, if_neg (fun hq => by first | exact absurd hq.1 aM | exact absurd hq.2 aM), if_neg aM]; rfl
theorem combStr_calls (F : Nat → Prop) (a b : IS) (c : Nat) (ta tb : TypeId) (ua ub : Value) (xa xb : List UInt8) (w0 : World) (hc : c < 256) (hra : Rep F w0 a (.iface ta ua)) (hrb : Rep F w0 b (.iface tb ub)) (ia : SM a xa) (ib : SM b xb) (hxa : xa.length ≤ 1000000000000) (hxb : xb.length ≤ 1000000000000) (hT : TABs w0) :
 CR PR 143 [.agg [.iface ta ua, .int .u8 (c : Int), .iface tb ub].toArray] w0 fun v w' => v = str (xa ++ ([32] ++ Sp.utf8 c ++ [32] ++ xb)) ∧ Gr w0 w' none := by
 have hT := hT.tab
 have hu8 := Sp.utf8_le c
 have hG : Gr w0 w0 none := Gr.refl _ _
 refine CR.of (n := 22) [(0, .agg [.iface ta ua, .int .u8 (c : Int), .iface tb ub].toArray)] Tryz.func143 rfl Tryz.ntmps143 rfl ⟨rfl, trivial⟩<|qr<|W.box (vs := [.iface ta ua, .int .u8 (c : Int), .iface tb ub]) rfl rfl rfl fun w q1 hq1 hB hv => ?_
 have hT := hT.grN hv
 have hra := hra.grN hv
 have hrb := hrb.grN hv
 have hG := hG.trans hv
 refine pr 1 rfl<|nsqr<|fA fo81_0 rfl<|lD sc48 hB rfl rfl<|W.callM rfl (ia _ _ _ hra) (⟨hra, hT.1⟩) rfl fun v w hv => ?_
 obtain ⟨rfl, hv⟩ := hv
 have hT := hT.grN hv
 have hra := hra.grN hv
 have hrb := hrb.grN hv
 have hB := hB.grN hv
 have hG := hG.trans hv
 refine pr 1 rfl<|nsq<|qr<|fA fo81_2 rfl<|lD sc48 hB rfl rfl<|qq (R.neNilT ifc48 rfl) rfl<|ns<|cV rfl<|dR<|prq 1 rfl<|fQ fo81_1 rfl<|lQ sc5 hB rfl rfl<|qw (fun w hw => R.strRune rfl kR u9) rfl<|qw (fun w hw => R.addS rfl rfl al) rfl<|qw (fun w hw => R.addS rfl rfl al) rfl<|fQ fo81_2 rfl<|lQ sc48 hB rfl rfl<|Wq.callM rfl (ib _ _ _ hrb) (fun w hw => ⟨hrb.grN hw, (hT.grN hw).1⟩) (fun w u w' hw hv => ⟨hv.1, Gr.trans hw hv.2⟩) rfl<|qw (fun w hw => R.addS rfl rfl al) rfl<|qw (fun w hw => R.addS rfl rfl al) rfl<|prq 1 rfl<|Wq.nil fun w hw => ?_
 have hT := hT.grN hw
 have hra := hra.grN hw
 have hrb := hrb.grN hw
 have hB := hB.grN hw
 have hG := hG.trans hw
 exact sqr<|pr 2 rfl<|nst<|rA rfl rfl ⟨rfl, hG⟩
end Go.Proofs.YtogfnbkccfkpoaaGreatDoor
namespace Go.Proofs.YtogfnbkccfkpoaaGreatDoor
open Go Go.RowKit
section
namespace Eng
theorem W.makeStr [Df] {P : Program} {Q : Post} {ops : Array Oper} {rest : List Oper} {n : Nat} {l : Fr} {w : World} {d : Nat} {ty : TypeId} {pos : String} {af : Array Edge} {x : Operand} {t : TypeId} {m : Nat} (hP : P.underlying t = some (.slice 9)) (hI : (P.info? 9).map (fun i => (i.zero, i.size, i.bytes)) = some (some (str []), 1, 16)) (hx : ev l x = some (.int .i64 (m : Int))) (hm : m ≤ 1000000000) (hdn : Nat.blt d n = true)
 (h : ∀ w' b, b = w.heap.size → Blk w' b 9 (List.replicate m (str [])) → Gr w w' none → W P ops Q n rest ((d, .slice (some ⟨b, 0, none⟩) m m) :: l) w') : W P ops Q n (⟨some d, .makeSlice t x x, ty, pos, af, none⟩ :: rest) l w := by
 have hmade : madeCells #[str []] m = (List.replicate m (str [])).toArray := by
  apply Array.ext
  ·simp [madeCells]
  intro i h1 h2
  simp [madeCells, Nat.mod_one]
 refine W.q (v := .slice (some ⟨w.heap.size, 0, none⟩) m m) (w' := w.alloc (.cells (List.replicate m (str [])).toArray 9 (0, 0))) ?_ rfl rfl hdn (h _ _ rfl (Blk.new w 9 _).1 (Blk.new w 9 _).2)
 intro a ha
 have hrun := run_make_row' (P := P) t 9 (str []) 16 hP hI rfl .i64 .i64 m om om w
 rw [hmade] at hrun
 simp only [execOp, ha.ev hx]
 simp [hrun]
end Eng
open Eng
theorem in9 : (PR.info? 9).map (fun i => (i.zero, i.size, i.bytes)) = some (some (str []), 1, 16) := by kernel_rfl
theorem join_le (ts : List (List UInt8)) (sep : List UInt8) : (Lib.join ts sep).length ≤ sep.length * ts.length + Lib.lens ts := by
 cases ts with
 | nil => simp [Lib.join_nil]
 | cons x r =>
  rw [Lib.join_length, List.length_cons, Nat.mul_add]; omega
theorem join_calls (kb c : Nat) (ts : List (List UInt8)) (sep : List UInt8) (w0 : World) (hB : Blk w0 kb 9 (ts.map str)) (hc : ts.length ≤ c) (hn : ts.length ≤ 1000000000) (hl : sep.length * ts.length + Lib.lens ts ≤ 140737488355328) : CR PR 137 [.slice (some ⟨kb, 0, none⟩) ts.length c, str sep] w0 fun v w' => v = str (Lib.join ts sep) ∧ Gr w0 w' none := by
 have hm : (ts.map fun t => (⟨t.toArray⟩ : ByteArray)).map (·.data.toList) = ts := by
  rw [List.map_map]
  exact (List.map_congr_left (g := id) fun t _ => rfl).trans (List.map_id ts)
 have h := Tryz.strings_Join kb 0 c (ts.map fun t => ⟨t.toArray⟩) ⟨sep.toArray⟩ w0 (fun j x hj => by
  rw [List.getElem?_map, Option.map_eq_some_iff] at hj
  obtain ⟨t, ht, rfl⟩ := hj
  rw [Nat.zero_add]
  exact hB.cell (by rw [List.getElem?_map, ht]; rfl)) hB.lt sM (by simpa using hc) (by rw [hm]; exact Nat.le_trans (join_le ts _) hl)
 rw [hm, List.length_map] at h
 refine Calls.mono h ?_
 rintro e w' ⟨rfl, hb⟩
 exact ⟨_, rfl, rfl, Gr.of_below hb⟩
def fill (ts : List (List UInt8)) (n i : Nat) : List Value := (ts.take i).map str ++ List.replicate (n - i) (str [])
theorem fill_get {ts : List (List UInt8)} {n i : Nat} (hl : ts.length = n) (hi : i < n) : (fill ts n i)[0 + i * 1]? = some (str []) := by
 rw [fill, Nat.zero_add, Nat.mul_one, List.getElem?_append_right sM]
 simp only [List.length_map, List.length_take, List.getElem?_replicate]
 rw [if_pos om]
theorem fill_set {ts : List (List UInt8)} {n i : Nat} {t : List UInt8} (hl : ts.length = n) (hi : i < n) (ht : ts[i]? = some t) : (fill ts n i).set (0 + i * 1) (str t) = fill ts n (i + 1) := by
 rw [fill, fill, Nat.zero_add, Nat.mul_one, List.set_append_right _ _ sM]
 have h1 : i - ((ts.take i).map str).length = 0 := by simp; omega
 have h2 : n - i = (n - (i + 1)) + 1 := by omega
 rw [h1, h2, List.replicate_succ, List.set_cons_zero, List.take_add_one, ht]
 simp
theorem fill_zero (ts : List (List UInt8)) (n : Nat) : fill ts n 0 = List.replicate n (str []) := by simp [fill]
theorem fill_all {ts : List (List UInt8)} {n : Nat} (hl : ts.length = n) : fill ts n n = ts.map str := by
 rw [fill, Nat.sub_self, ← hl, List.take_length]; simp
def SMs (l : List IS) (ts : List (List UInt8)) : Prop := ts.length = l.length ∧ ∀ (i : Nat) (x : IS), l[i]? = some x → ∃ t, ts[i]? = some t ∧ SM x t
theorem grpStr_calls (F : Nat → Prop) (l : List IS) (ts : List (List UInt8)) (va : Option Addr) (vc : Nat) (w0 : World) (hS : SLs F w0 l (.slice va l.length vc)) (hts : SMs l ts) (hw : IS.wtL l ≤ 1000000000) (hlt : Lib.lens ts + 2 * ts.length ≤ 40000000000) (hT : TABs w0) :
 CR PR 136 [.slice va l.length vc] w0 fun v w' => v = str (Lib.join ts [44, 32]) ∧ Gr w0 w' none := by
 have hS : SLB w0.heap.size w0 l (.slice va l.length vc) := hS.bel
 have hT := hT.tab
 have hlw := IS.wtL_len l
 have htl := hts.1
 have hG : Gr w0 w0 none := Gr.refl _ _
 refine CR.of (n := 24) [(0, .slice va l.length vc)] Tryz.func136 rfl Tryz.ntmps136 rfl ⟨rfl, trivial⟩<|qr<|pr 1 rfl<|nsqr<|pr 1 rfl<|qq (R.lenL rfl slq42) rfl ?_
 have hzk := hG.size
 refine W.makeStr u106 in9 rfl om rfl fun w kb hkz hK hv => ?_
 have hS := hS.grN hv
 have hT := hT.grN hv
 have hG := hG.trans hv
 have hkw : w0.heap.size ≤ kb := by rw [hkz]; exact hzk
 rw [← fill_zero ts] at hK
 refine pr 1 rfl<|ns<|C.cut (fun l' w' => l' = [(3, .slice (some ⟨kb, 0, none⟩) l.length l.length)] ∧ Blk w' kb 9 (ts.map str) ∧ Gr w0 w' none) ?_ ?_
 ·refine qr<|pr 1 rfl<|qq (R.lenL rfl slq42) rfl<|pr 1 rfl<|ns<|rO<|sB [(3, .slice (some ⟨kb, 0, none⟩) l.length l.length), (9, .slice va l.length vc), (10, .int .i64 (l.length : Int)), (11, .int .i64 ((0 : Nat) : Int))] rfl<|C.loop (fun m l' w' => ∃ i : Nat, l' = [(3, .slice (some ⟨kb, 0, none⟩) l.length l.length), (9, .slice va l.length vc), (10, .int .i64 (l.length : Int)), (11, .int .i64 (i : Int))] ∧ Blk w' kb 9 (fill ts l.length i) ∧ SLB w0.heap.size w' l (.slice va l.length vc) ∧ TAB w0.heap.size w' ∧ Gr w0 w' none ∧ i + m = l.length) (l.length) (⟨0, rfl, hK, hS, hT, hG, om⟩) ?_
  rintro m l w ⟨i, rfl, hK, hS, hT, hG, hm⟩
  refine qr<|qq (R.ltI rfl rfl) rfl<|nsq<|cD rfl (fun h1 => ?_) fun h1 => ?_
  ·refine ksq<|rO<|rQ ?_
   have hil : i < l.length := by omega
   obtain ⟨xb, xc, xv, hxe, hxc, hrx⟩ := hS.get i l[i] (List.getElem?_eq_getElem hil)
   obtain ⟨t, hti, hsm⟩ := hts.2 i l[i] (List.getElem?_eq_getElem hil)
   injection hxe with hxe1 hxe2 hxe3
   subst hxe1 hxe3
   obtain ⟨xt, xu, rfl⟩ := Rep.ifc hrx
   refine rR<|pr 1 rfl<|qq (R.idxA rfl rfl i rfl hil sl42) rfl<|qq (R.loadC sc48 rfl hxc) rfl<|pr 2 rfl<|nsr<|pr 3 rfl<|W.callM rfl (hsm _ _ _ hrx) (⟨hrx, hT.1⟩) rfl fun v w hv => ?_
   obtain ⟨rfl, hv⟩ := hv
   have hK := hK.grN hv
   have hS := hS.grN hv
   have hT := hT.grN hv
   have hG := hG.trans hv
   refine qq (R.idxA rfl rfl i rfl hil sl106) rfl<|W.store sc9 rfl rfl rfl hK (fill_get hts.1 hil) fun w hK hs => ?_
   rw [fill_set hts.1 hil hti] at hK
   have hS := hS.gr hs au
   have hT := hT.gr hs au
   have hG := hG.fresh hs hkw
   exact nbs<|rR<|aK rfl rfl<|pr 1 rfl<|rN<|cT [(3, _), (9, _), (10, .int .i64 (l.length : Int)), (11, .int .i64 ((i + 1 : Nat) : Int))] rfl ⟨m - 1, om, i + 1, rfl, hK, hS, hT, hG, om⟩
  refine rE<|rX<|rX<|rY ?_
  obtain rfl : i = l.length := by omega
  rw [fill_all htl] at hK
  exact cT [(3, .slice (some ⟨kb, 0, none⟩) l.length l.length)] rfl ⟨rfl, hK, hG⟩
 rintro l w ⟨rfl, hK, hG⟩
 refine qr<|pr 1 rfl<|eN en137 rfl ((by have h := join_calls kb l.length ts [44, 32] _ hK om om (by simp only [List.length_cons, List.length_nil]; omega); rw [htl] at h; exact h)) fun v w hv => ?_
 obtain ⟨rfl, hv⟩ := hv
 have hG := hG.trans hv
 exact pr 1 rfl<|nst<|rA rfl rfl ⟨rfl, hG⟩
theorem relStr_calls (F : Nat → Prop) (l : List IS) (ts : List (List UInt8)) (nm : List UInt8) (va : Option Addr) (vc : Nat) (w0 : World) (hS : SLs F w0 l (.slice va l.length vc)) (hnm : nm.length ≤ 1000000000) (hts : SMs l ts) (hw : IS.wtL l ≤ 1000000000) (hlt : Lib.lens ts + 2 * ts.length ≤ 40000000000) (hT : TABs w0) :
 CR PR 169 [.agg [str nm, .slice va l.length vc].toArray] w0 fun v w' => v = str ([58] ++ nm ++ [40] ++ Lib.join ts [44, 32] ++ [41]) ∧ Gr w0 w' none := by
 have hS : SLB w0.heap.size w0 l (.slice va l.length vc) := hS.bel
 have hT := hT.tab
 have htl := hts.1
 have hjl := join_le ts [44, 32]
 simp only [List.length_cons, List.length_nil] at hjl
 have hG : Gr w0 w0 none := Gr.refl _ _
 refine CR.of (n := 12) [(0, .agg [str nm, .slice va l.length vc].toArray)] Tryz.func169 rfl Tryz.ntmps169 rfl ⟨rfl, trivial⟩<|qr<|W.box (vs := [str nm, .slice va l.length vc]) rfl rfl rfl fun w q1 hq1 hB hv => ?_
 have hS := hS.grN hv
 have hT := hT.grN hv
 have hG := hG.trans hv
 refine pr 1 rfl<|nsq<|dR<|fQ fo114_0 rfl<|lQ sc9 hB rfl rfl<|qw (fun w hw => R.addS rfl rfl al) rfl<|qw (fun w hw => R.addS rfl rfl al) rfl<|fQ fo114_1 rfl<|lQ sc42 hB rfl rfl<|Wq.enter (fun w hw => R.call en136 rfl) rfl rfl rfl (fun w hw => (grpStr_calls _ l ts va vc _ (hS.grN hw) hts om hlt (hT.grN hw).1).mono fun v w' hv => ⟨hv.1, Gr.trans hw hv.2⟩)<|qw (fun w hw => R.addS rfl rfl al) rfl<|qw (fun w hw => R.addS rfl rfl al) rfl<|prq 1 rfl<|Wq.nil fun w hw => ?_
 have hS := hS.grN hw
 have hT := hT.grN hw
 have hB := hB.grN hw
 have hG := hG.trans hw
 exact rS<|rT<|rA rfl rfl ⟨rfl, hG⟩
def Im.compT (ts : List (List UInt8)) (pe : List UInt8) : List UInt8 := if ts = [] ∧ pe = [] then [42] else Lib.join ts [] ++ (if pe = [] then [] else [58, 58] ++ pe)
theorem compStr_calls (F : Nat → Prop) (l : List IS) (ts : List (List UInt8)) (pe : List UInt8) (va : Option Addr) (vc : Nat) (w0 : World) (hS : SLs F w0 l (.slice va l.length vc)) (hpe : pe.length ≤ 1000000000) (hts : SMs l ts) (hw : IS.wtL l ≤ 1000000000) (hlt : Lib.lens ts + 2 * ts.length ≤ 40000000000) (hT : TABs w0) :
 CR PR 165 [.agg [.slice va l.length vc, str pe].toArray] w0 fun v w' => v = str (Im.compT ts pe) ∧ Gr w0 w' none := by
 have hS : SLB w0.heap.size w0 l (.slice va l.length vc) := hS.bel
 have hT := hT.tab
 have hlw := IS.wtL_len l
 have htl := hts.1
 have hjl := join_le ts []
 simp only [List.length_nil] at hjl
 have hG : Gr w0 w0 none := Gr.refl _ _
 refine CR.of (n := 45) [(0, .agg [.slice va l.length vc, str pe].toArray)] Tryz.func165 rfl Tryz.ntmps165 rfl ⟨rfl, trivial⟩<|qr<|W.box (vs := [.slice va l.length vc, str pe]) rfl rfl rfl fun w q1 hq1 hB hv => ?_
 have hS := hS.grN hv
 have hT := hT.grN hv
 have hG := hG.trans hv
 refine pr 1 rfl<|nsq<|qr<|fA fo105_0 rfl<|lD sc41 hB rfl rfl<|qq (R.lenL rfl slq41) rfl<|W.split (R.eqI rfl rfl) rfl rfl rfl (fun h1 => ?_) (fun h1 => ?_)
 ·try norm_cast at h1
  refine pr 1 rfl<|gg (R.fieldAddr fo105_1 rfl) rfl<|gg (R.load sc9 rfl hB rfl) rfl<|W.gsplit rfl (R.eqS rfl rfl) rfl rfl rfl (fun h2 => ?_) (fun h2 => ?_)
  ·try norm_cast at h2
   refine pr 1 rfl<|ns<|cV rfl<|qr<|pr 1 rfl<|nsth<|rA rfl rfl ⟨congrArg str ?_, hG⟩
   have ht0 : ts = [] := List.length_eq_zero_iff.1 om
   rw [Im.compT, if_pos ⟨ht0, by assumption⟩]
  try norm_cast at h2
  refine pr 1 rfl<|ns<|cF rfl<|ksq ?_
  have hne : ¬ (ts = [] ∧ pe = []) := by
   rintro ⟨h1, h2⟩
   subst h1
   simp only [List.length_nil] at htl
   first | exact absurd (htl.symm) aM | exact absurd h2 aM
  refine rR<|fA fo105_0 rfl<|lD sc41 hB rfl rfl<|qq (R.lenL rfl slq41) rfl ?_
  have hzk := hG.size
  have hlb := hB.lt
  refine W.makeStr u106 in9 rfl om rfl fun w kb hkz hK hv => ?_
  have hS := hS.grN hv
  have hT := hT.grN hv
  have hB := hB.grN hv
  have hG := hG.trans hv
  have hkw : w0.heap.size ≤ kb := by rw [hkz]; exact hzk
  rw [← fill_zero ts] at hK
  refine pr 1 rfl<|ns<|C.cut (fun l' w' => l' = [(1, pP q1), (3, .slice (some ⟨kb, 0, none⟩) l.length l.length)] ∧ Blk w' q1 105 [.slice va l.length vc, str pe] ∧ Blk w' kb 9 (ts.map str) ∧ Gr w0 w' none) ?_ ?_
  ·refine qr<|fA fo105_0 rfl<|lD sc41 hB rfl rfl<|qq (R.lenL rfl slq41) rfl<|pr 1 rfl<|ns<|rO<|sB [(1, pP q1), (3, .slice (some ⟨kb, 0, none⟩) l.length l.length), (21, .slice va l.length vc), (22, .int .i64 (l.length : Int)), (23, .int .i64 ((0 : Nat) : Int))] rfl<|C.loop (fun m l' w' => ∃ i : Nat, l' = [(1, pP q1), (3, .slice (some ⟨kb, 0, none⟩) l.length l.length), (21, .slice va l.length vc), (22, .int .i64 (l.length : Int)), (23, .int .i64 (i : Int))] ∧ Blk w' q1 105 [.slice va l.length vc, str pe] ∧ Blk w' kb 9 (fill ts l.length i) ∧ SLB w0.heap.size w' l (.slice va l.length vc) ∧ TAB w0.heap.size w' ∧ Gr w0 w' none ∧ i + m = l.length) (l.length) (⟨0, rfl, hB, hK, hS, hT, hG, om⟩) ?_
   rintro m l w ⟨i, rfl, hB, hK, hS, hT, hG, hm⟩
   refine qr<|qq (R.ltI rfl rfl) rfl<|nsq<|cD rfl (fun h3 => ?_) fun h3 => ?_
   ·try norm_cast at h3
    refine ksq<|rO<|rQ ?_
    have hil : i < l.length := by omega
    obtain ⟨xb, xc, xv, hxe, hxc, hrx⟩ := hS.get i l[i] (List.getElem?_eq_getElem hil)
    obtain ⟨t, hti, hsm⟩ := hts.2 i l[i] (List.getElem?_eq_getElem hil)
    injection hxe with hxe1 hxe2 hxe3
    subst hxe1 hxe3
    obtain ⟨xt, xu, rfl⟩ := Rep.ifc hrx
    refine rR<|pr 1 rfl<|qq (R.idxA rfl rfl i rfl hil sl41) rfl<|qq (R.loadC sc48 rfl hxc) rfl<|pr 2 rfl<|nsr<|pr 3 rfl<|W.callM rfl (hsm _ _ _ hrx) (⟨hrx, hT.1⟩) rfl fun v w hv => ?_
    obtain ⟨rfl, hv⟩ := hv
    have hB := hB.grN hv
    have hK := hK.grN hv
    have hS := hS.grN hv
    have hT := hT.grN hv
    have hG := hG.trans hv
    refine qq (R.idxA rfl rfl i rfl hil sl106) rfl<|W.store sc9 rfl rfl rfl hK (fill_get hts.1 hil) fun w hK hs => ?_
    rw [fill_set hts.1 hil hti] at hK
    have hB := hB.gr hs au
    have hS := hS.gr hs au
    have hT := hT.gr hs au
    have hG := hG.fresh hs hkw
    exact nbs<|rR<|aK rfl rfl<|pr 1 rfl<|rN<|cT [(1, pP q1), (3, _), (21, _), (22, .int .i64 (l.length : Int)), (23, .int .i64 ((i + 1 : Nat) : Int))] rfl ⟨m - 1, om, i + 1, rfl, hB, hK, hS, hT, hG, om⟩
   try norm_cast at h3
   refine rE<|rX<|rX<|rY ?_
   obtain rfl : i = l.length := by omega
   rw [fill_all htl] at hK
   exact cT [(1, pP q1), (3, .slice (some ⟨kb, 0, none⟩) l.length l.length)] rfl ⟨rfl, hB, hK, hG⟩
  rintro l w ⟨rfl, hB, hK, hG⟩
  refine qr<|pr 1 rfl<|eN en137 rfl ((by have h := join_calls kb l.length ts [] _ hK om om (by simp only [List.length_nil]; omega); rw [htl] at h; exact h)) fun v w hv => ?_
  obtain ⟨rfl, hv⟩ := hv
  have hG := hG.trans hv
  have hB := hB.grN hv
  refine pr 1 rfl<|nsq<|qr<|fA fo105_1 rfl<|lD sc9 hB rfl rfl<|qq (R.neS rfl rfl) rfl<|ns<|cD rfl (fun h4 => ?_) fun h4 => ?_
  ·refine rR<|pr 1 rfl<|fA fo105_1 rfl<|lD sc9 hB rfl rfl<|aS rfl rfl<|aS rfl rfl<|pr 1 rfl<|nsqr<|pr 2 rfl<|nst<|rA rfl rfl ⟨congrArg str ?_, hG⟩
   rw [Im.compT, if_neg hne, if_neg aM]
  refine ksqr<|pr 2 rfl<|nst<|rA rfl rfl ⟨congrArg str ?_, hG⟩
  rw [Im.compT, if_neg hne, if_pos (Decidable.not_not.1 aM)]; try simp
 try norm_cast at h1
 refine pr 5 rfl<|ns<|cF rfl<|ksq ?_
 have hne : ¬ (ts = [] ∧ pe = []) := by
  rintro ⟨h1, h2⟩
  subst h1
  simp only [List.length_nil] at htl
  first | exact absurd (htl.symm) aM | exact absurd h2 aM
 refine rR<|fA fo105_0 rfl<|lD sc41 hB rfl rfl<|qq (R.lenL rfl slq41) rfl ?_
 have hzk := hG.size
 have hlb := hB.lt
 refine W.makeStr u106 in9 rfl om rfl fun w kb hkz hK hv => ?_
 have hS := hS.grN hv
 have hT := hT.grN hv
 have hB := hB.grN hv
 have hG := hG.trans hv
 have hkw : w0.heap.size ≤ kb := by rw [hkz]; exact hzk
 rw [← fill_zero ts] at hK
 refine pr 1 rfl<|ns<|C.cut (fun l' w' => l' = [(1, pP q1), (3, .slice (some ⟨kb, 0, none⟩) l.length l.length)] ∧ Blk w' q1 105 [.slice va l.length vc, str pe] ∧ Blk w' kb 9 (ts.map str) ∧ Gr w0 w' none) ?_ ?_
 ·refine qr<|fA fo105_0 rfl<|lD sc41 hB rfl rfl<|qq (R.lenL rfl slq41) rfl<|pr 1 rfl<|ns<|rO<|sB [(1, pP q1), (3, .slice (some ⟨kb, 0, none⟩) l.length l.length), (21, .slice va l.length vc), (22, .int .i64 (l.length : Int)), (23, .int .i64 ((0 : Nat) : Int))] rfl<|C.loop (fun m l' w' => ∃ i : Nat, l' = [(1, pP q1), (3, .slice (some ⟨kb, 0, none⟩) l.length l.length), (21, .slice va l.length vc), (22, .int .i64 (l.length : Int)), (23, .int .i64 (i : Int))] ∧ Blk w' q1 105 [.slice va l.length vc, str pe] ∧ Blk w' kb 9 (fill ts l.length i) ∧ SLB w0.heap.size w' l (.slice va l.length vc) ∧ TAB w0.heap.size w' ∧ Gr w0 w' none ∧ i + m = l.length) (l.length) (⟨0, rfl, hB, hK, hS, hT, hG, om⟩) ?_
  rintro m l w ⟨i, rfl, hB, hK, hS, hT, hG, hm⟩
  refine qr<|qq (R.ltI rfl rfl) rfl<|nsq<|cD rfl (fun h5 => ?_) fun h5 => ?_
  ·try norm_cast at h5
   refine ksq<|rO<|rQ ?_
   have hil : i < l.length := by omega
   obtain ⟨xb, xc, xv, hxe, hxc, hrx⟩ := hS.get i l[i] (List.getElem?_eq_getElem hil)
   obtain ⟨t, hti, hsm⟩ := hts.2 i l[i] (List.getElem?_eq_getElem hil)
   injection hxe with hxe1 hxe2 hxe3
   subst hxe1 hxe3
   obtain ⟨xt, xu, rfl⟩ := Rep.ifc hrx
   refine rR<|pr 1 rfl<|qq (R.idxA rfl rfl i rfl hil sl41) rfl<|qq (R.loadC sc48 rfl hxc) rfl<|pr 2 rfl<|nsr<|pr 3 rfl<|W.callM rfl (hsm _ _ _ hrx) (⟨hrx, hT.1⟩) rfl fun v w hv => ?_
   obtain ⟨rfl, hv⟩ := hv
   have hB := hB.grN hv
   have hK := hK.grN hv
   have hS := hS.grN hv
   have hT := hT.grN hv
   have hG := hG.trans hv
   refine qq (R.idxA rfl rfl i rfl hil sl106) rfl<|W.store sc9 rfl rfl rfl hK (fill_get hts.1 hil) fun w hK hs => ?_
   rw [fill_set hts.1 hil hti] at hK
   have hB := hB.gr hs au
   have hS := hS.gr hs au
   have hT := hT.gr hs au
   have hG := hG.fresh hs hkw
   exact nbs<|rR<|aK rfl rfl<|pr 1 rfl<|rN<|cT [(1, pP q1), (3, _), (21, _), (22, .int .i64 (l.length : Int)), (23, .int .i64 ((i + 1 : Nat) : Int))] rfl ⟨m - 1, om, i + 1, rfl, hB, hK, hS, hT, hG, om⟩
  try norm_cast at h5
  refine rE<|rX<|rX<|rY ?_
  obtain rfl : i = l.length := by omega
  rw [fill_all htl] at hK
  exact cT [(1, pP q1), (3, .slice (some ⟨kb, 0, none⟩) l.length l.length)] rfl ⟨rfl, hB, hK, hG⟩
 rintro l w ⟨rfl, hB, hK, hG⟩
 refine qr<|pr 1 rfl<|eN en137 rfl ((by have h := join_calls kb l.length ts [] _ hK om om (by simp only [List.length_nil]; omega); rw [htl] at h; exact h)) fun v w hv => ?_
 obtain ⟨rfl, hv⟩ := hv
 have hG := hG.trans hv
 have hB := hB.grN hv
 refine pr 1 rfl<|nsq<|qr<|fA fo105_1 rfl<|lD sc9 hB rfl rfl<|qq (R.neS rfl rfl) rfl<|ns<|cD rfl (fun h6 => ?_) fun h6 => ?_
 ·refine rR<|pr 1 rfl<|fA fo105_1 rfl<|lD sc9 hB rfl rfl<|aS rfl rfl<|aS rfl rfl<|pr 1 rfl<|nsqr<|pr 2 rfl<|nst<|rA rfl rfl ⟨congrArg str ?_, hG⟩
  rw [Im.compT, if_neg hne, if_neg aM]
 refine ksqr<|pr 2 rfl<|nst<|rA rfl rfl ⟨congrArg str ?_, hG⟩
 rw [Im.compT, if_neg hne, if_pos (Decidable.not_not.1 aM)]; try simp
end
end Go.Proofs.YtogfnbkccfkpoaaGreatDoor
namespace Go.Proofs.YtogfnbkccfkpoaaGreatDoor
open Go Go.RowKit
open Eng
theorem flat_str (ty : Nat) (h : ty ∈ flats) : StrOk (.flat ty) := by
 have mk : ∀ (f : FuncId) (t : List UInt8), (∀ w : World, (callMethod (.iface ty (.agg [].toArray)) "String" #[]).run PR w = .ok (.enter f #[.agg [].toArray]) w) → (∀ w0, CR PR f [.agg [].toArray] w0 fun v w' => v = str t ∧ Gr w0 w' none) → t.length ≤ 40 → StrOk (.flat ty) := by
  intro f t h1 h2 h3
  refine ⟨t, om, fun F v w hr => ?_⟩
  rw [Rep] at hr; subst hr
  exact ⟨f, _, h1, fun w _ => h2 w⟩
 simp only [flats, List.mem_cons, List.not_mem_nil, or_false] at h
 rcases h with h | h | h | h | h | h | h
 ·exact mk 179 _ (fun w => by rw [h]; kernel_rfl) (inputStr_calls []) dC
 ·exact mk 181 _ (fun w => by rw [h]; kernel_rfl) (emptyStr_calls []) dC
 ·exact mk 183 _ (fun w => by rw [h]; kernel_rfl) (rootStr_calls []) dC
 ·exact mk 185 _ (fun w => by rw [h]; kernel_rfl) (linkStr_calls []) dC
 ·exact mk 189 _ (fun w => by rw [h]; kernel_rfl) (enabledStr_calls []) dC
 ·exact mk 191 _ (fun w => by rw [h]; kernel_rfl) (disabledStr_calls []) dC
 exact mk 193 _ (fun w => by rw [h]; kernel_rfl) (checkedStr_calls []) dC
theorem rel_str (nm : List UInt8) (g : List IS) (ts : List (List UInt8)) (hw : nm.length + 3 + IS.wtL g ≤ 1000000000) (hts : SMs g ts) (hl : Lib.lens ts + 2 * ts.length ≤ 40 * IS.wtL g) : StrOk (.rel nm g) := by
 have hj := join_le ts [44, 32]
 simp only [List.length_cons, List.length_nil] at hj
 refine ⟨[58] ++ nm ++ [40] ++ Lib.join ts [44, 32] ++ [41], ?_, fun F v w h => ?_⟩
 ·rw [IS.wt]; simp only [List.length_append, List.length_cons, List.length_nil]; omega
 obtain ⟨vl, rfl, hS⟩ := h.rel_iff
 obtain ⟨va, vc, rfl⟩ := hS.any
 exact ⟨169, _, rel_callT nm va _ vc, fun w h => relStr_calls F g ts nm va vc w h.1.relS om hts om om h.2⟩
theorem comp_str (g : List IS) (pe : List UInt8) (ts : List (List UInt8)) (hw : IS.wtL g + pe.length + 3 ≤ 1000000000) (hts : SMs g ts) (hl : Lib.lens ts + 2 * ts.length ≤ 40 * IS.wtL g) : StrOk (.comp g pe) := by
 have hj := join_le ts []
 simp only [List.length_nil] at hj
 refine ⟨Im.compT ts pe, ?_, fun F v w h => ?_⟩
 ·rw [IS.wt, Im.compT]
  split
  ·simp only [List.length_cons, List.length_nil]; omega
  split <;> simp only [List.length_append, List.length_cons, List.length_nil] <;> omega
 obtain ⟨vl, rfl, hS⟩ := h.comp_iff
 obtain ⟨va, vc, rfl⟩ := hS.any
 exact ⟨165, _, comp_callT pe va _ vc, fun w h => compStr_calls F g ts pe va vc w h.1.compS om hts om om h.2⟩
theorem comb_str (a b : IS) (c : Nat) (hc : c < 256) (hw : a.wt + 3 + b.wt ≤ 1000000000) (ia : StrOk a) (ib : StrOk b) : StrOk (.comb a c b) := by
 obtain ⟨xa, la, ma⟩ := ia
 obtain ⟨xb, lb, mb⟩ := ib
 have hu := Sp.utf8_le c
 refine ⟨xa ++ ([32] ++ Sp.utf8 c ++ [32] ++ xb), ?_, fun F v w h => ?_⟩
 ·rw [IS.wt]; simp only [List.length_append, List.length_cons, List.length_nil]; omega
 obtain ⟨ta, ua, tb, ub, rfl⟩ := h.comb_iff
 exact ⟨143, _, comb_callT ta tb ua ub _, fun w h => combStr_calls F a b c ta tb ua ub xa xb w hc h.1.combS.1 h.1.combS.2 ma mb om om h.2⟩
theorem nth_callT (a b : Int) (la ot : Bool) (w : World) : (callMethod (.iface 122 (.agg [.int .i64 a, .int .i64 b, .bool la, .bool ot].toArray)) "String" #[]).run PR w = .ok (.enter 175 #[.agg [.int .i64 a, .int .i64 b, .bool la, .bool ot].toArray]) w := by kernel_rfl
theorem attr_callT (k x o : List UInt8) (i : Bool) (w : World) : (callMethod (.iface 99 (.agg [str k, str x, str o, .bool i].toArray)) "String" #[]).run PR w = .ok (.enter 161 #[.agg [str k, str x, str o, .bool i].toArray]) w := by kernel_rfl
theorem cont_callT (t : List UInt8) (o : Bool) (w : World) : (callMethod (.iface 118 (.agg [str t, .bool o].toArray)) "String" #[]).run PR w = .ok (.enter 173 #[.agg [str t, .bool o].toArray]) w := by kernel_rfl
theorem nthName_le (la ot : Bool) : (Im.nthName la ot).length ≤ 20 := by cases la <;> cases ot <;> decide
theorem nth_str (a b : Int) (la ot : Bool) (ha : Im.Fits a) (hb : Im.Fits b) : StrOk (.nth a b la ot) := by
 have hla := Lib.itoa_length_le a (by have := ha.1; omega) (by have := ha.2; omega)
 have hlb := Lib.itoa_length_le b (by have := hb.1; omega) (by have := hb.2; omega)
 have hn := nthName_le la ot
 refine ⟨Im.nthT a b la ot, ?_, fun F v w h => ?_⟩
 ·rw [IS.wt, Im.nthT]
  split
  ·cases la <;> cases ot <;> decide
  split <;> simp only [List.length_append, List.length_cons, List.length_nil] <;> omega
 rw [Rep] at h; subst h
 exact ⟨175, _, nth_callT a b la ot, fun w h => nthStr_calls a b la ot w ha hb h.2⟩
theorem attr_str (k x o : List UInt8) (i : Bool) (hw : k.length + x.length + o.length ≤ 1000000000) : StrOk (.attr k x o i) := by
 refine ⟨Im.attrT k x o i, ?_, fun F v w h => ?_⟩
 ·rw [IS.wt, Im.attrT]
  split <;> cases i <;> simp only [List.length_append, List.length_cons, List.length_nil, if_true, Bool.false_eq_true, if_false] <;> omega
 rw [Rep] at h; subst h
 exact ⟨161, _, attr_callT k x o i, fun w _ => attrStr_calls k x o i w om om om⟩
theorem cont_str (t : List UInt8) (o : Bool) (hw : t.length ≤ 1000000000) : StrOk (.contains t o) := by
 refine ⟨Im.containsT t o, ?_, fun F v w h => ?_⟩
 ·rw [IS.wt, Im.containsT]
  cases o <;> simp only [List.length_append, List.length_cons, List.length_nil, if_true, Bool.false_eq_true, if_false] <;> omega
 rw [Rep] at h; subst h
 exact ⟨173, _, cont_callT t o, fun w _ => containsStr_calls t o w hw⟩
theorem one_str (x : IS) (f ty : Nat) (t : List UInt8) (T : List UInt8) (hx : ∀ F w v, Rep F w x v → v = .iface ty (.agg [str t].toArray)) (hc : ∀ w : World, (callMethod (.iface ty (.agg [str t].toArray)) "String" #[]).run PR w = .ok (.enter f #[.agg [str t].toArray]) w) (hl : T.length ≤ 40 * x.wt + 40) (h : ∀ w0, CR PR f [.agg [str t].toArray] w0 fun v w' => v = str T ∧ Gr w0 w' none) : StrOk x :=
 ⟨T, hl, fun F v w hr => by
  have e := hx F w v hr
  subst e
  exact ⟨f, _, hc, fun w _ => h w⟩⟩
theorem tag_callT (t : List UInt8) (w : World) : (callMethod (.iface 87 (.agg [str t].toArray)) "String" #[]).run PR w = .ok (.enter 148 #[.agg [str t].toArray]) w := by kernel_rfl
theorem id_callT (t : List UInt8) (w : World) : (callMethod (.iface 91 (.agg [str t].toArray)) "String" #[]).run PR w = .ok (.enter 152 #[.agg [str t].toArray]) w := by kernel_rfl
theorem cls_callT (t : List UInt8) (w : World) : (callMethod (.iface 95 (.agg [str t].toArray)) "String" #[]).run PR w = .ok (.enter 157 #[.agg [str t].toArray]) w := by kernel_rfl
theorem lang_callT (t : List UInt8) (w : World) : (callMethod (.iface 131 (.agg [str t].toArray)) "String" #[]).run PR w = .ok (.enter 187 #[.agg [str t].toArray]) w := by kernel_rfl
theorem never_callT (t : List UInt8) (w : World) : (callMethod (.iface 136 (.agg [str t].toArray)) "String" #[]).run PR w = .ok (.enter 197 #[.agg [str t].toArray]) w := by kernel_rfl
theorem only_callT (o : Bool) (w : World) : (callMethod (.iface 124 (.agg [.bool o].toArray)) "String" #[]).run PR w = .ok (.enter 177 #[.agg [.bool o].toArray]) w := by kernel_rfl
theorem only_str (o : Bool) : StrOk (.only o) := by
 refine ⟨if o then [58, 111, 110, 108, 121, 45, 111, 102, 45, 116, 121, 112, 101] else [58, 111, 110, 108, 121, 45, 99, 104, 105, 108, 100], ?_, fun F v w h => ?_⟩
 ·rw [IS.wt]; cases o <;> decide
 rw [Rep] at h; subst h
 exact ⟨177, _, only_callT o, fun w _ => onlyStr_calls o w⟩
mutual
theorem str_ok : ∀ (x : IS), x.Good → x.wt ≤ 1000000000 → StrOk x
 | .tag t, _, hw => by
  rw [IS.wt] at hw
  exact one_str _ 148 87 t t (fun F w v h => by rw [Rep] at h; exact h) (tag_callT t) (by rw [IS.wt]; omega) (fun w => tagStr_calls t w hw)
 | .idt t, _, hw => by
  rw [IS.wt] at hw
  have he := Im.esc_le t
  exact one_str _ 152 91 t ([35] ++ Im.esc t) (fun F w v h => by rw [Rep] at h; exact h) (id_callT t) (by rw [IS.wt]; simp only [List.length_append, List.length_cons, List.length_nil]; omega) (fun w => idStr_calls t w om)
 | .cls t, _, hw => by
  rw [IS.wt] at hw
  have he := Im.esc_le t
  exact one_str _ 157 95 t ([46] ++ Im.esc t) (fun F w v h => by rw [Rep] at h; exact h) (cls_callT t) (by rw [IS.wt]; simp only [List.length_append, List.length_cons, List.length_nil]; omega) (fun w => clsStr_calls t w om)
 | .lang t, _, hw => by
  rw [IS.wt] at hw
  exact one_str _ 187 131 t ([58, 108, 97, 110, 103, 40] ++ t ++ [41]) (fun F w v h => by rw [Rep] at h; exact h) (lang_callT t) (by rw [IS.wt]; simp only [List.length_append, List.length_cons, List.length_nil]; omega) (fun w => langStr_calls t w om)
 | .never t, _, hw => by
  rw [IS.wt] at hw
  exact one_str _ 197 136 t t (fun F w v h => by rw [Rep] at h; exact h) (never_callT t) (by rw [IS.wt]; omega) (fun w => neverStr_calls t w hw)
 | .attr k x o i, _, hw => attr_str k x o i (by rw [IS.wt] at hw; omega)
 | .contains t o, _, hw => cont_str t o (by rw [IS.wt] at hw; omega)
 | .nth a b la ot, hg, _ => nth_str a b la ot (by rw [IS.Good] at hg; exact hg.1) (by rw [IS.Good] at hg; exact hg.2)
 | .only o, _, _ => only_str o
 | .flat ty, hg, _ => flat_str ty (by rw [IS.Good] at hg; exact hg)
 | .rel nm g, hg, hw => by
  rw [IS.Good] at hg
  rw [IS.wt] at hw
  obtain ⟨ts, h1, h2⟩ := strL_ok g hg om
  exact rel_str nm g ts hw h1 h2
 | .comp g pe, hg, hw => by
  rw [IS.Good] at hg
  rw [IS.wt] at hw
  obtain ⟨ts, h1, h2⟩ := strL_ok g hg om
  exact comp_str g pe ts hw h1 h2
 | .comb a c b, hg, hw => by
  rw [IS.Good] at hg
  rw [IS.wt] at hw
  exact comb_str a b c hg.2.1 hw (str_ok a hg.1 om) (str_ok b hg.2.2 om)
theorem strL_ok : ∀ (l : List IS), IS.GoodL l → IS.wtL l ≤ 1000000000 → ∃ ts, SMs l ts ∧ Lib.lens ts + 2 * ts.length ≤ 40 * IS.wtL l
 | [], _, _ => ⟨[], ⟨rfl, fun i x hx => by simp at hx⟩, by simp [Lib.lens]⟩
 | x :: r, hg, hw => by
  rw [IS.GoodL] at hg
  rw [IS.wtL] at hw
  obtain ⟨t, hl, hm⟩ := str_ok x hg.1 om
  obtain ⟨ts, h1, h2⟩ := strL_ok r hg.2 om
  refine ⟨t :: ts, ⟨by simp [h1.1], fun i y hy => ?_⟩, ?_⟩
  ·cases i with
   | zero => simp at hy; subst hy; exact ⟨t, rfl, hm⟩
   | succ i => exact h1.2 i y (by simpa using hy)
  rw [IS.wtL]
  simp only [Lib.lens, List.map_cons, List.sum_cons, List.length_cons] at h2 ⊢
  omega
end
def rowV (x : IS) (t : List UInt8) : List Value := [str t, .int .i64 (x.spec.a : Int), .int .i64 (x.spec.b : Int), .int .i64 (x.spec.c : Int), str x.pel]
def rowsV : List IS → List (List UInt8) → List Value
 | x :: r, t :: ts => rowV x t ++ rowsV r ts
 | _, _ => []
theorem rowsV_snoc : ∀ {l : List IS} {ts : List (List UInt8)} {i : Nat} {x : IS} {t : List UInt8}, l[i]? = some x → ts[i]? = some t → rowsV (l.take (i + 1)) (ts.take (i + 1)) = rowsV (l.take i) (ts.take i) ++ rowV x t
 | [], _, _, _, _, h, _ => by simp at h
 | _ :: _, [], _, _, _, _, h => by simp at h
 | y :: l, u :: ts, 0, x, t, h1, h2 => by
  simp at h1 h2; subst h1 h2
  simp [rowsV]
 | y :: l, u :: ts, i + 1, x, t, h1, h2 => by
  have := rowsV_snoc (l := l) (ts := ts) (i := i) (x := x) (t := t) (by simpa using h1) (by simpa using h2)
  rw [List.take_succ_cons, List.take_succ_cons, List.take_succ_cons, List.take_succ_cons, rowsV, rowsV, this, List.append_assoc]
theorem b32 (t pe : List UInt8) (a b c : Int) : PR.built 32 [(0, str t), (1, .agg [.int .i64 a, .int .i64 b, .int .i64 c].toArray), (2, str pe)] = some [str t, .int .i64 a, .int .i64 b, .int .i64 c, str pe].toArray := by kernel_rfl
theorem row25 (t pe : List UInt8) (a b c : Int) : rowOf PR 25 1 [(0, .agg [str t, .int .i64 a, .int .i64 b, .int .i64 c, str pe].toArray)] = some (32, [str t, .int .i64 a, .int .i64 b, .int .i64 c, str pe]) := by kernel_rfl
theorem el25 : elInfo PR 25 = some (32, 5, 56) := by kernel_rfl
def FTop (w0 : World) : Option (List IS) → Value → World → Prop
 | none, v, w' => v = .tuple #[.slice none 0 0, .bool false] ∧ Gr w0 w' none
 | some l, v, w' => ∃ vl ts, v = .tuple #[vl, .bool true] ∧ ts.length = l.length ∧ w'.ownsRow w0.heap.size 32 5 vl l.length (rowsV l ts) ∧ Gr w0 w' none
theorem parsed_good {s : List UInt8} {l : List IS} (h : Im.parsed s = some l) : IS.GoodL l ∧ IS.wtL l ≤ 100 * s.length + 5 := by
 unfold Im.parsed at h
 cases h1 : Im.group s true (s.length + 2) 0 with
 | none => rw [h1] at h; cases h
 | some p =>
  obtain ⟨l', j⟩ := p
  rw [h1] at h
  simp only at h
  split at h
  ·cases h
  simp only [Option.some.injEq] at h
  subst h
  have := Im.group_law s true _ 0 0 _ _ om om h1
  exact ⟨this.2.2.2, om⟩
theorem FromText_calls (s : List UInt8) (w0 : World) (hb : s.length ≤ 1000) (hrng : RNG w0.heap.size w0) (hT : TABs w0) :
 CR PR 5 [str s] w0 fun v w' => FTop w0 (Im.parsed s) v w' := by
 have hT := hT.tab
 have hG : Gr w0 w0 none := Gr.refl _ _
 refine CR.of (n := 33) [(0, str s)] Tryz.func5 rfl Tryz.ntmps5 rfl ⟨rfl, trivial⟩<|qr<|pr 2 rfl<|nsqr<|pr 1 rfl<|eN en12 rfl (parse_calls s _ hb (hrng.gr (hG.no _))) fun v w hv => ?_
 rcases hM : Im.parsed s with _ | l
 ·rw [hM] at hv
  obtain ⟨rr, ee, rfl, ⟨et, eu, rfl⟩, hv⟩ := hv
  have hG := hG.trans hv
  refine pr 5 rfl<|nsq<|qr<|pr 1 rfl<|qq (R.neNilT ifc44 rfl) rfl<|ns<|cV rfl<|qr<|pr 2 rfl<|nsth<|At.res2 rfl rfl rfl ?_
  exact ⟨rfl, hG⟩
 rw [hM] at hv
 obtain ⟨vl, rfl, hS, hv⟩ := hv
 obtain ⟨va, vc, rfl⟩ := hS.slice
 have hT := hT.grN hv
 have hG := hG.trans hv
 have hS : SLB w.heap.size w l (.slice va l.length vc) := SLs.bel hS.done
 obtain ⟨B, hBz⟩ : ∃ B, B = w.heap.size := ⟨_, rfl⟩
 rw [← hBz] at hS
 have hBw : w0.heap.size ≤ B := by rw [hBz]; exact hG.size
 have hO : w.ownsRow B 32 5 (.slice none 0 0) 0 [] := World.ownsRow_nil w B 32 5
 obtain ⟨hgood, hwt⟩ := parsed_good hM
 have hlw := IS.wtL_len l
 obtain ⟨ts, hts, hlt⟩ := strL_ok l hgood om
 refine pr 5 rfl<|nsq<|qr<|pr 1 rfl<|qq (R.neNilF ifc44 rfl) rfl<|ns<|cF rfl<|ks<|C.cut (fun l' w' => ∃ v2 : Value, l' = [(2, v2)] ∧ w'.ownsRow B 32 5 v2 l.length (rowsV l ts) ∧ Gr w0 w' none) ?_ ?_
 ·refine qr<|pr 1 rfl<|qq (R.lenL rfl slq42) rfl<|pr 1 rfl<|ns<|rO<|sB [(2, .slice none 0 0), (15, .slice va l.length vc), (16, .int .i64 (l.length : Int)), (17, .int .i64 ((0 : Nat) : Int))] rfl<|C.loop (fun m l' w' => ∃ (i : Nat) (v2 : Value), l' = [(2, v2), (15, .slice va l.length vc), (16, .int .i64 (l.length : Int)), (17, .int .i64 (i : Int))] ∧ SLB B w' l (.slice va l.length vc) ∧ TAB w0.heap.size w' ∧ w'.ownsRow B 32 5 v2 i (rowsV (l.take i) (ts.take i)) ∧ Gr w0 w' none ∧ B ≤ w'.heap.size ∧ i + m = l.length) (l.length) (⟨0, _, rfl, hS, hT, hO, hG, Nat.le_of_eq hBz, om⟩) ?_
  rintro m l w ⟨i, v2, rfl, hS, hT, hO, hG, hBg, hm⟩
  refine qr<|qq (R.ltI rfl rfl) rfl<|nsq<|cD rfl (fun h1 => ?_) fun h1 => ?_
  ·refine ksq<|rO<|rQ ?_
   have hil : i < l.length := by omega
   have hlx := List.getElem?_eq_getElem hil
   have hmem := List.getElem_mem hil
   obtain ⟨xb, xc, xv, hxe, hxc, hrx⟩ := hS.get i l[i] hlx
   obtain ⟨t, hti, hsm⟩ := hts.2 i l[i] hlx
   have hgx := hgood.get l[i] hmem
   have hwx := IS.wt_mem hmem
   have hspx := spec_ok l[i] hgx om
   have hplx := pel_ok l[i] hgx
   generalize l[i] = x at hlx hmem hrx hsm hgx hwx hspx hplx
   injection hxe with hxe1 hxe2 hxe3
   subst hxe1 hxe3
   obtain ⟨xt, xu, rfl⟩ := Rep.ifc hrx
   refine rR<|qq (R.idxA rfl rfl i rfl hil sl42) rfl<|qq (R.loadC sc48 rfl hxc) rfl<|pr 1 rfl<|nsr<|pr 2 rfl<|W.callM rfl (hsm _ _ _ hrx) (⟨hrx, hT.1⟩) rfl fun v w hv => ?_
   obtain ⟨rfl, hv⟩ := hv
   have hS := hS.grN hv
   have hT := hT.grN hv
   have hG := hG.trans hv
   have hO := own_grN hO hv
   have hrx := hrx.grN hv
   have hBg := Nat.le_trans hBg hv.size
   refine pr 1 rfl<|W.callM rfl (hspx _ _ _ hrx) (hrx) rfl fun v w hv => ?_
   obtain ⟨rfl, hv⟩ := hv
   have hS := hS.grN hv
   have hT := hT.grN hv
   have hG := hG.trans hv
   have hO := own_grN hO hv
   have hrx := hrx.grN hv
   have hBg := Nat.le_trans hBg hv.size
   refine pr 1 rfl<|W.callM rfl (hplx _ _ _ hrx) (hrx) rfl fun v w hv => ?_
   obtain ⟨rfl, hv⟩ := hv
   have hS := hS.grN hv
   have hT := hT.grN hv
   have hG := hG.trans hv
   have hO := own_grN hO hv
   have hrx := hrx.grN hv
   have hBg := Nat.le_trans hBg hv.size
   refine qq (R.build (vs := rowV x t) (ps := [(0, str t), (1, .agg x.spec.cells.toArray), (2, str x.pel)]) (fun a ha => by simp [ha.ev (x := .tmp 23) rfl, ha.ev (x := .tmp 25) rfl, ha.ev (x := .tmp 27) rfl]) (b32 t x.pel _ _ _)) rfl<|W.buildSlice (ps := [(0, .agg (rowV x t).toArray)]) (fun a ha => by simp [ha.ev (x := .tmp 28) rfl]) (row25 t x.pel _ _ _) rfl fun w kb hkz hK hv => ?_
   have hO := own_grN hO hv
   have hS := hS.grN hv
   have hT := hT.grN hv
   have hG := hG.trans hv
   have hBg := Nat.le_trans hBg hv.size
   have hO0 := hO
   refine W.append el25 rfl hO rfl (m := 1) (news := rowV x t) rfl (fun j u hj => by rw [addr_add, Nat.zero_add]; exact hK.cell hj) (fun u hu => by simp [rowV] at hu; rcases hu with rfl | rfl | rfl | rfl | rfl <;> rfl) (by simp only [maxLen]; omega) om hBg rfl fun v2 w hO hv => ?_
   have hS := hS.gr hv (fun k e => (hO0.lt k e).1)
   have hT := hT.gr hv (fun k e => Nat.le_trans hBw (hO0.lt k e).1)
   have hBg := Nat.le_trans hBg hv.size
   have hG := Gr.own hG hv (own_mono hO0 hBw)
   refine pr 1 rfl<|nbs<|rR<|aK rfl rfl<|pr 1 rfl<|rN ?_
   have hO := hO
   rw [← rowsV_snoc hlx hti] at hO
   exact cT [(2, v2), (15, _), (16, .int .i64 (l.length : Int)), (17, .int .i64 ((i + 1 : Nat) : Int))] rfl ⟨m - 1, om, i + 1, v2, rfl, hS, hT, hO, hG, hBg, om⟩
  refine rE<|rX<|rX<|rY ?_
  obtain rfl : i = l.length := by omega
  rw [List.take_length, ← hts.1, List.take_length, hts.1] at hO
  exact cT [(2, v2)] rfl ⟨v2, rfl, hO, hG⟩
 rintro l w ⟨v2, rfl, hO, hG⟩
 refine qr<|pr 3 rfl<|nst<|At.res2 rfl rfl rfl ?_
 exact ⟨_, ts, rfl, hts.1, own_mono hO hBw, hG⟩
end Go.Proofs.YtogfnbkccfkpoaaGreatDoor
