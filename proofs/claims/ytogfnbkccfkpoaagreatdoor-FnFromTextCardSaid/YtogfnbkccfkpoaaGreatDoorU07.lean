/- A part (7) of the proof of the row of laws.FnFromText: lemmas on Cpx, Grp, Spc. No condition but what each statement says. -/
import Derived.Test.YtogfnbkccfkpoaaGreatDoorU06
set_option linter.unusedSimpArgs false
set_option linter.unusedVariables false
set_option maxRecDepth 100000
namespace Go.Proofs.YtogfnbkccfkpoaaGreatDoor
open Go Go.RowKit
open Eng
def OwnT (base : Nat) (w : World) (v : Value) (t : ST) : Prop := w.ownsRow base 53 8 v t.cnt t.enc
theorem OwnT.grN {base : Nat} {w w' : World} {v : Value} {t : ST} (h : OwnT base w v t) (hg : Gr w w' none) : OwnT base w' v t := own_grN h hg
theorem OwnT.gr {base : Nat} {w w' : World} {v : Value} {t : ST} {r : Option Nat} (h : OwnT base w v t) (hg : Gr w w' r) (hn : ∀ b, r = some b → b < base) : OwnT base w' v t := by
 cases r with
 | none => exact own_grN h hg
 | some b => exact own_gr h hg (hn b rfl)
theorem row28b (a1 a2 : Option Addr) (n1 c1 n2 c2 : Nat) : rowOf PR 28 2 [(0, .slice a1 n1 c1), (1, .slice a2 n2 c2)] = some (22, [.slice a1 n1 c1, .slice a2 n2 c2]) := by kernel_rfl
theorem SelMade2 (X : SelN) (t1 t2 : ST) (v1 v2 : Value) (kb cap : Nat) (w0 : World) (hB : Blk w0 kb 22 [v1, v2]) (h1 : w0.ownsRow 0 53 8 v1 t1.cnt t1.enc) (h2 : w0.ownsRow 0 53 8 v2 t2.cnt t2.enc) (hs : t1.cnt + t2.cnt ≤ 90000) : CR PR 19 [.agg (X.cells 0).toArray, .slice (some ⟨kb, 0, none⟩) 2 cap] w0 fun v w' => w'.ownsRow w0.heap.size 53 8 v (ST.node X [t1, t2]).cnt (ST.node X [t1, t2]).enc ∧ Gr w0 w' none :=
 (SelMade_calls X 0 (some ⟨kb, 0, none⟩) cap [(v1, t1.cnt, t1.enc), (v2, t2.cnt, t2.enc)] w0 (fun j p h => by
  refine ⟨kb, rfl, ?_⟩
  match j, h with
  | 0, h => simp at h; subst h; exact hB.cell rfl
  | 1, h => simp at h; subst h; exact hB.cell rfl
  | j + 2, h => simp at h) (fun p h => by simp at h; rcases h with rfl | rfl; exact h1; exact h2) (fun p h => by simp at h; rcases h with rfl | rfl; exact ST.enc_one t1; exact ST.enc_one t2) (by simp) (by simp [sumN]; omega)).mono fun v w' h => ⟨by simpa [ST.cnt, ST.enc, ST.cntL, ST.encL, sumN, sumX] using h.1, h.2⟩
theorem OkLast.of_kind {t : ST} (h : t.top.kind ≠ 22) : OkLast t := by
 cases t with
 | node x l => exact .leaf x l h
namespace Sp
section
variable (grp : Rd → ST × Rd) (pe : Bool)
def CK : (ST × Rd) ⊕ (List ST × List UInt8 × Nat × Rd) → Prop
 | .inl f => f.1.top.kind ≠ 22
 | .inr _ => True
theorem compoundGo_kind : ∀ (k : Nat) (l : List ST) (v : List UInt8) (many : Nat) (r : Rd), CK (compoundGo grp pe k l v many r)
 | 0, l, v, many, r => trivial
 | k + 1, l, v, many, r => by
  rw [compoundGo]
  split
  ·dsimp only
   split
   ·trivial
   split
   ·split
    ·exact (by decide : (1 : Nat) ≠ 22)
    split
    ·exact (by decide : (1 : Nat) ≠ 22)
    exact compoundGo_kind k _ _ _ _
   exact compoundGo_kind k _ _ _ _
  trivial
theorem compTail_kind (y : (ST × Rd) ⊕ (List ST × List UInt8 × Nat × Rd)) (h : CK y) : (compTail y).1.top.kind ≠ 22 := by
 cases y with
 | inl x => exact h
 | inr x =>
  obtain ⟨l, v, many, r⟩ := x
  rw [compTail]
  split
  ·exact (by decide : (1 : Nat) ≠ 22)
  exact (by decide : (21 : Nat) ≠ 22)
theorem compound_kind (r : Rd) : (compound grp pe r).1.top.kind ≠ 22 := by
 cases e : taken r [42] with
 | mk a r1 =>
  cases a with
  | true => rw [compound_1 e]; exact compTail_kind _ (compoundGo_kind _ _ _ _ _ _ _)
  | false =>
   cases e2 : nameFollows r1 with
   | mk a2 r2 =>
    cases a2 with
    | true => rw [compound_2 e e2 rfl]; exact compTail_kind _ (compoundGo_kind _ _ _ _ _ _ _)
    | false => rw [compound_3 e e2]; exact compTail_kind _ (compoundGo_kind _ _ _ _ _ _ _)
end
def opOf (c : Nat) : Nat := if c = 62 then 2 else if c = 43 then 3 else if c = 126 then 4 else 0
section
variable {grp : Rd → ST × Rd} {pe : Bool} {r r1 r2 : Rd} {left : ST} {m op : Nat} {bl bl2 : Bool}
def cgTail (grp : Rd → ST × Rd) (pe : Bool) (m : Nat) (left : ST) (op : Nat) (r2 : Rd) : ST × Rd :=
 if ends left then fail r2.unsure else complexGo grp pe m (ST.node ⟨22, op, [], [], 0, 0, 0⟩ [left, (compound grp pe r2).1]) (compound grp pe r2).2
theorem cg_bad (h : r.bad = true) : complexGo grp pe m left r = (left, r) := by
 cases m with
 | zero => rfl
 | succ m => rw [complexGo, if_pos h]
theorem cg_op (h : r.bad = false) (e : spaces r = (bl, r1)) (ho : opOf (next r1) = op) (hp : 0 < op) (e2 : spaces (r1.adv 1) = (bl2, r2)) : complexGo grp pe (m + 1) left r = cgTail grp pe m left op r2 := by
 rw [complexGo, if_neg (by rw [h]; decide)]
 have ho' : (if next r1 = 62 then 2 else if next r1 = 43 then 3 else if next r1 = 126 then 4 else 0) = op := ho
 simp only [e, ho', hp, if_true, e2]
 rfl
theorem cg_blank (h : r.bad = false) (e : spaces r = (true, r1)) (ho : opOf (next r1) = 0) (hc : ¬ (r1.s.length ≤ r1.pos ∨ next r1 = 44 ∨ next r1 = 41)) : complexGo grp pe (m + 1) left r = cgTail grp pe m left 1 r1 := by
 rw [complexGo, if_neg (by rw [h]; decide)]
 have ho' : (if next r1 = 62 then 2 else if next r1 = 43 then 3 else if next r1 = 126 then 4 else 0) = 0 := ho
 simp only [e, ho', Nat.lt_irrefl, if_false, if_true]
 rw [if_neg hc]
 rfl
theorem cg_end (h : r.bad = false) (e : spaces r = (bl, r1)) (ho : opOf (next r1) = 0) (hc : r1.s.length ≤ r1.pos ∨ next r1 = 44 ∨ next r1 = 41) : complexGo grp pe (m + 1) left r = (left, r1) := by
 rw [complexGo, if_neg (by rw [h]; decide)]
 have ho' : (if next r1 = 62 then 2 else if next r1 = 43 then 3 else if next r1 = 126 then 4 else 0) = 0 := ho
 simp only [e, ho', Nat.lt_irrefl, if_false]
 rw [if_pos hc]
theorem cg_no (h : r.bad = false) (e : spaces r = (false, r1)) (ho : opOf (next r1) = 0) (hc : ¬ (r1.s.length ≤ r1.pos ∨ next r1 = 44 ∨ next r1 = 41)) : complexGo grp pe (m + 1) left r = (left, r1) := by
 rw [complexGo, if_neg (by rw [h]; decide)]
 have ho' : (if next r1 = 62 then 2 else if next r1 = 43 then 3 else if next r1 = 126 then 4 else 0) = 0 := ho
 simp only [e, ho', Nat.lt_irrefl, if_false]
 rw [if_neg hc]
 rfl
theorem complex_1 {y : ST} (e : spaces r = (bl, r1)) (e2 : compound grp pe r1 = (y, r2)) : complex grp pe r = complexGo grp pe (r2.s.length + 2) y r2 := by
 unfold complex; simp only [e, e2]
end
end Sp
set_option maxHeartbeats 4000000 in
theorem complex_calls (g : Nat) (s : List UInt8) (p0 : Nat) (b0 u0 ps : Bool) (w0 : World) (hr : RD g ⟨s, p0, b0, u0, ps⟩ w0) (hb : s.length ≤ 1000) (hp : p0 ≤ s.length + 1) (grp : Rd → ST × Rd) (hgle : ∀ r, Sp.Ok r → Sp.Step 3 r (grp r)) (hgrp : GrpOk g s ps grp (p0 + 1)) (pe : Bool) :
 CR PR 17 [pP g, .bool pe] w0 fun v w' => Made g w0 (Sp.complex grp pe ⟨s, p0, b0, u0, ps⟩) v w' := by
 have hgl0 := hr.lt
 have hr : RK g s p0 b0 u0 ps _ := hr
 have hG : Gr w0 w0 (some g) := Gr.refl _ _
 refine CR.of (n := 103) [(0, pP g), (1, .bool pe)] Tryz.func17 rfl Tryz.ntmps17 rfl ⟨rfl, rfl, trivial⟩<|qr<|pr 1 rfl<|nsqr<|pr 1 rfl<|eN en24 rfl (spaces_calls g ⟨s, p0, b0, u0, ps⟩ _ hr hb sO) fun v w hv => ?_
 obtain ⟨v1, p1, b1, u1, e1, hp1a, hp1b, hb1, hu1⟩ := Sp.Le.split (f := Sp.spaces ⟨s, p0, b0, u0, ps⟩) (Sp.spaces_le ⟨s, p0, b0, u0, ps⟩ okk)
 obtain ⟨hv1, hro, hv⟩ := hv
 rw [e1] at hv1 hro
 have hv1 : v = .bool v1 := hv1
 subst hv1
 clear hr
 have hr : RD g ⟨s, p1, b1, u1, ps⟩ w := hro
 clear hro
 have hG := hG.trans hv
 have hr : RK g s p1 b1 u1 ps _ := hr
 refine nsqr<|pr 2 rfl<|eN en25 rfl (compound_calls g s p1 b1 u1 ps _ hr hb om grp hgle (hgrp.mono om) pe) fun v w hv => ?_
 obtain ⟨t2, p2, b2, u2, e2, hp2a, hp2b, hb2, hu2⟩ := Sp.Le.split (f := Sp.compound grp pe ⟨s, p1, b1, u1, ps⟩) (Sp.compound_le grp hgle pe ⟨s, p1, b1, u1, ps⟩ okk).1
 have hc2 : t2.cnt ≤ 2 + 4 * (p2 - (p1)) := by have := (Sp.compound_le grp hgle pe ⟨s, p1, b1, u1, ps⟩ okk).2; rw [e2] at this; exact this
 have hk2 : t2.top.kind ≠ 22 := by have := Sp.compound_kind grp pe ⟨s, p1, b1, u1, ps⟩; rw [e2] at this; exact this
 obtain ⟨hY, hro, hv⟩ := hv
 rw [e2] at hY hro
 have hY : World.ownsRow w _ 53 8 v t2.cnt t2.enc := hY
 obtain ⟨bk, ck, rfl⟩ := own_slice hY (ST.cnt_pos _)
 have hY : OwnT w0.heap.size w (.slice (some ⟨bk, 0, none⟩) t2.cnt ck) t2 := own_mono hY hG.size
 clear hr
 have hr : RD g ⟨s, p2, b2, u2, ps⟩ w := hro
 clear hro
 have hG := hG.trans hv
 have hr : RK g s p2 b2 u2 ps _ := hr
 refine pr 1 rfl<|nsq<|rO<|sB [(0, pP g), (1, .bool pe), (5, .slice (some ⟨bk, 0, none⟩) t2.cnt ck)] rfl<|C.loop (fun m l w' => ∃ (bl cl : Nat) (left : ST) (p : Nat) (b u : Bool), l = [(0, pP g), (1, .bool pe), (5, .slice (some ⟨bl, 0, none⟩) left.cnt cl)] ∧ OwnT w0.heap.size w' (.slice (some ⟨bl, 0, none⟩) left.cnt cl) left ∧ OkLast left ∧ RD g ⟨s, p, b, u, ps⟩ w' ∧ Gr w0 w' (some g) ∧ Sp.complex grp pe ⟨s, p0, b0, u0, ps⟩ = Sp.complexGo grp pe m left ⟨s, p, b, u, ps⟩ ∧ (b = true ∨ s.length + 1 < p + m) ∧ p0 ≤ p ∧ p ≤ s.length + 1 ∧ left.cnt ≤ 2 + 4 * (p - p0)) (s.length + 2) (⟨bk, ck, t2, _, _, _, rfl, hY, OkLast.of_kind aM, hr, hG, Sp.complex_1 e1 e2, Or.inr om, om, om, om⟩) ?_
 rintro m l w ⟨bl, cl, left, p, b, u, rfl, hL, hOL, hr, hG, hE, hm, hp1, hp2, hct⟩
 have hr : RK g s p b u ps _ := hr
 refine qqr<|pr 2 rfl<|fA fo38_2 rfl<|lD sc4 hr rfl rfl<|pr 1 rfl<|ns<|cC rfl (fun h3 => ?_) (fun h3 => ?_)
 ·try simp only [Bool.not_eq_true', Bool.not_eq_false'] at h3
  subst h3
  have hr : RK g s p false u ps _ := hr
  refine ks<|rO<|rQ ?_
  have hm : s.length + 1 < p + m := hm.resolve_left dC
  obtain ⟨m, rfl⟩ := sU m
  refine rR<|pr 1 rfl<|eN en24 rfl (spaces_calls g ⟨s, p, false, u, ps⟩ _ hr hb sO) fun v w hv => ?_
  obtain ⟨v4, p4, b4, u4, e4, hp4a, hp4b, hb4, hu4⟩ := Sp.Le.split (f := Sp.spaces ⟨s, p, false, u, ps⟩) (Sp.spaces_le ⟨s, p, false, u, ps⟩ okk)
  obtain ⟨hv1, hro, hv⟩ := hv
  rw [e4] at hv1 hro
  have hv1 : v = .bool v4 := hv1
  subst hv1
  clear hr
  have hr : RD g ⟨s, p4, b4, u4, ps⟩ w := hro
  clear hro
  have hG := hG.trans hv
  have hL := hL.gr hv au
  have hr : RK g s p4 b4 u4 ps _ := hr
  refine pr 1 rfl<|nsqr<|pr 1 rfl<|nsq<|qr<|pr 1 rfl<|eN en26 rfl (nx_calls g s p4 b4 u4 ps _ hr hb om) fun v w hv => ?_
  obtain ⟨rfl, hv⟩ := hv
  have hr := hr.grN hv
  have hG := hG.trans (hv.no _)
  have hnx := Sp.nx_lt s (p4)
  have hL := hL.gr hv au
  refine ns<|rO<|qr<|qq (R.eqI rfl rfl) rfl<|pr 1 rfl<|ns<|cD rfl (fun h5 => ?_) fun h5 => ?_
  ·try norm_cast at h5
   refine rR<|pr 1 rfl<|nbs<|C.cut (fun l w' => ∃ (op p2 : Nat) (b2 u2 : Bool), l = [(0, pP g), (1, .bool pe), (5, .slice (some ⟨bl, 0, none⟩) left.cnt cl), (7, .int .i64 (op : Int))] ∧ OwnT w0.heap.size w' (.slice (some ⟨bl, 0, none⟩) left.cnt cl) left ∧ RD g ⟨s, p2, b2, u2, ps⟩ w' ∧ Gr w0 w' (some g) ∧ Sp.complex grp pe ⟨s, p0, b0, u0, ps⟩ = Sp.cgTail grp pe m left op ⟨s, p2, b2, u2, ps⟩ ∧ s.length + 1 < p2 + m ∧ p0 + 1 ≤ p2 ∧ p2 ≤ s.length + 1 ∧ left.cnt + 2 ≤ 4 * (p2 - p0)) ?_ ?_
   ·refine rO<|qr<|pr 1 rfl<|qq (R.gtI rfl rfl) rfl<|pr 1 rfl<|ns<|cV rfl<|rQ ?_
    have hps := Sp.nx_pos (s := s) (p := p4) om
    refine rR<|pr 2 rfl<|fA fo38_1 rfl<|lD sc3 hr rfl rfl<|aK rfl rfl<|pr 1 rfl<|fA fo38_1 rfl<|sT sc3 hr rfl fun w hr hs => ?_
    have hL := hL.gr hs au
    have hr : RK g s (p4 + 1) b4 u4 ps _ := hr
    have hG := hG.trans hs
    refine nsr<|pr 1 rfl<|eN en24 rfl (spaces_calls g ⟨s, p4 + 1, b4, u4, ps⟩ _ hr hb sO) fun v w hv => ?_
    obtain ⟨v6, p6, b6, u6, e6, hp6a, hp6b, hb6, hu6⟩ := Sp.Le.split (f := Sp.spaces ⟨s, p4 + 1, b4, u4, ps⟩) (Sp.spaces_le ⟨s, p4 + 1, b4, u4, ps⟩ okk)
    obtain ⟨hv1, hro, hv⟩ := hv
    rw [e6] at hv1 hro
    have hv1 : v = .bool v6 := hv1
    subst hv1
    clear hr
    have hr : RD g ⟨s, p6, b6, u6, ps⟩ w := hro
    clear hro
    have hG := hG.trans hv
    have hL := hL.gr hv au
    have hr : RK g s p6 b6 u6 ps _ := hr
    refine nB ?_
    rw [Sp.cg_op (op := 2) rfl e4 (by rw [Sp.opOf, Sp.next_mk, if_pos om]) dC e6] at hE
    exact cT [(0, pP g), (1, .bool pe), (5, .slice (some ⟨bl, 0, none⟩) left.cnt cl), (7, .int .i64 ((2 : Nat) : Int))] rfl ⟨2, _, _, _, rfl, hL, hr, hG, hE, om, om, om, om⟩
   rintro l w ⟨op, p2, b2, u2, rfl, hL, hr, hG, hE, hm, hp3, hp4, hct2⟩
   have hN : NodesAt w bl (0 + 0 * 8) left.enc := NodesAt.of_own hL
   have hcl := ST.cnt_pos left
   have hblg : w0.heap.size ≤ bl := (World.ownsRow.lt hL bl rfl).1
   have hr : RK g s p2 b2 u2 ps _ := hr
   refine C.cut (fun l w' => l = [(0, pP g), (1, .bool pe), (5, .slice (some ⟨bl, 0, none⟩) left.cnt cl), (7, .int .i64 (op : Int))] ∧ OwnT w0.heap.size w' (.slice (some ⟨bl, 0, none⟩) left.cnt cl) left ∧ RD g ⟨s, p2, b2, u2, ps⟩ w' ∧ Gr w0 w' (some g) ∧ Sp.ends left = false) ?_ ?_
   ·refine qr<|pr 1 rfl<|qq (R.idxA rfl rfl 0 rfl om sl22) rfl<|fA fo53_0 rfl<|qq (R.loadC sc3 rfl hN.kind) rfl<|W.split (R.eqI rfl rfl) rfl rfl rfl (fun h7 => ?_) (fun h7 => ?_)
    ·try norm_cast at h7
     refine pr 2 rfl<|gg (R.idxA rfl rfl 0 rfl om sl22) rfl<|gg (R.fieldAddr fo53_3 rfl) rfl<|gg (R.loadC sc9 rfl hN.val) rfl<|W.gsplit rfl (R.neS rfl rfl) rfl rfl rfl (fun h8 => ?_) (fun h8 => ?_)
     ·try norm_cast at h8
      refine pr 13 rfl<|ns<|cV rfl<|qr<|pr 2 rfl<|fA fo38_3 rfl<|sT sc4 hr rfl fun w hr hs => ?_
      have hL := hL.gr hs au
      have hN := hN.gr hs au
      have hr : RK g s p2 b2 true ps _ := hr
      have hG := hG.trans hs
      refine nsqr<|pr 1 rfl<|eN en28 rfl (fail_calls g s p2 b2 true ps _ hr) fun v w hv => ?_
      obtain ⟨hO, hr, hv⟩ := hv
      have hO := own_mono hO hG.size
      have hG := hG.trans hv
      have hL := hL.gr hv au
      have hN := hN.gr hv au
      have hr : RK g s p2 true true ps _ := hr
      refine pr 1 rfl<|nsth<|rC<|rH<|rC<|rH ?_
      try simp only [Decidable.not_not] at h7
      try simp only [Decidable.not_not] at h8
      have hEnd : Sp.ends left = true := by
       first | (exfalso; omega) | (simp [Sp.ends, h7, h8]; done)
      refine rA rfl rfl ?_
      rw [hE, Sp.cgTail, if_pos hEnd]
      exact ⟨hO, hr, hG⟩
     try norm_cast at h8
     refine pr 3 rfl<|gg (R.idxA rfl rfl 0 rfl om sl22) rfl<|gg (R.fieldAddr fo53_0 rfl) rfl<|gg (R.loadC sc3 rfl hN.kind) rfl<|W.gsplit rfl (R.eqI rfl rfl) rfl rfl rfl (fun h9 => ?_) (fun h9 => ?_)
     ·try norm_cast at h9
      refine pr 2 rfl<|gN rfl en27 rfl (lastPseudo_calls bl 0 left.cnt cl left _ hN hOL (Nat.le_refl _) om) fun v w hv => ?_
      obtain ⟨rfl, hv⟩ := hv
      have hr := hr.grN hv
      have hG := hG.trans (hv.no _)
      have hL := hL.gr hv au
      have hN := hN.gr hv au
      refine gg (R.neS rfl rfl) rfl<|pr 2 rfl<|ns<|cD rfl (fun h10 => ?_) fun h10 => ?_
      ·try norm_cast at h10
       refine qr<|pr 2 rfl<|fA fo38_3 rfl<|sT sc4 hr rfl fun w hr hs => ?_
       have hL := hL.gr hs au
       have hN := hN.gr hs au
       have hr : RK g s p2 b2 true ps _ := hr
       have hG := hG.trans hs
       refine nsqr<|pr 1 rfl<|eN en28 rfl (fail_calls g s p2 b2 true ps _ hr) fun v w hv => ?_
       obtain ⟨hO, hr, hv⟩ := hv
       have hO := own_mono hO hG.size
       have hG := hG.trans hv
       have hL := hL.gr hv au
       have hN := hN.gr hv au
       have hr : RK g s p2 true true ps _ := hr
       refine pr 1 rfl<|nsth<|rC<|rH<|rC<|rH ?_
       try simp only [Decidable.not_not] at h7
       try simp only [Decidable.not_not] at h8
       try simp only [Decidable.not_not] at h9
       try simp only [Decidable.not_not] at h10
       have hEnd : Sp.ends left = true := by
        first | (exfalso; omega) | (simp [Sp.ends, h7, h8, h9, h10]; done)
       refine rA rfl rfl ?_
       rw [hE, Sp.cgTail, if_pos hEnd]
       exact ⟨hO, hr, hG⟩
      try norm_cast at h10
      refine rK ?_
      try simp only [Decidable.not_not] at h7
      try simp only [Decidable.not_not] at h8
      try simp only [Decidable.not_not] at h9
      try simp only [Decidable.not_not] at h10
      have hEnd : Sp.ends left = false := by
       first | (exfalso; omega) | (simp [Sp.ends, h7, h8, h9, h10]; done)
      exact cT [(0, pP g), (1, .bool pe), (5, .slice (some ⟨bl, 0, none⟩) left.cnt cl), (7, .int .i64 (op : Int))] rfl ⟨rfl, hL, hr, hG, hEnd⟩
     try norm_cast at h9
     refine pr 6 rfl<|ns<|cF rfl<|rK ?_
     try simp only [Decidable.not_not] at h7
     try simp only [Decidable.not_not] at h8
     try simp only [Decidable.not_not] at h9
     have hEnd : Sp.ends left = false := by
      first | (exfalso; omega) | (simp [Sp.ends, h7, h8, h9]; done)
     exact cT [(0, pP g), (1, .bool pe), (5, .slice (some ⟨bl, 0, none⟩) left.cnt cl), (7, .int .i64 (op : Int))] rfl ⟨rfl, hL, hr, hG, hEnd⟩
    try norm_cast at h7
    refine pr 9 rfl<|gg (R.idxA rfl rfl 0 rfl om sl22) rfl<|gg (R.fieldAddr fo53_0 rfl) rfl<|gg (R.loadC sc3 rfl hN.kind) rfl<|W.gsplit rfl (R.eqI rfl rfl) rfl rfl rfl (fun h11 => ?_) (fun h11 => ?_)
    ·try norm_cast at h11
     refine pr 2 rfl<|gN rfl en27 rfl (lastPseudo_calls bl 0 left.cnt cl left _ hN hOL (Nat.le_refl _) om) fun v w hv => ?_
     obtain ⟨rfl, hv⟩ := hv
     have hr := hr.grN hv
     have hG := hG.trans (hv.no _)
     have hL := hL.gr hv au
     have hN := hN.gr hv au
     refine gg (R.neS rfl rfl) rfl<|pr 2 rfl<|ns<|cD rfl (fun h12 => ?_) fun h12 => ?_
     ·try norm_cast at h12
      refine qr<|pr 2 rfl<|fA fo38_3 rfl<|sT sc4 hr rfl fun w hr hs => ?_
      have hL := hL.gr hs au
      have hN := hN.gr hs au
      have hr : RK g s p2 b2 true ps _ := hr
      have hG := hG.trans hs
      refine nsqr<|pr 1 rfl<|eN en28 rfl (fail_calls g s p2 b2 true ps _ hr) fun v w hv => ?_
      obtain ⟨hO, hr, hv⟩ := hv
      have hO := own_mono hO hG.size
      have hG := hG.trans hv
      have hL := hL.gr hv au
      have hN := hN.gr hv au
      have hr : RK g s p2 true true ps _ := hr
      refine pr 1 rfl<|nsth<|rC<|rH<|rC<|rH ?_
      try simp only [Decidable.not_not] at h7
      try simp only [Decidable.not_not] at h11
      try simp only [Decidable.not_not] at h12
      have hEnd : Sp.ends left = true := by
       first | (exfalso; omega) | (simp [Sp.ends, h7, h11, h12]; done)
      refine rA rfl rfl ?_
      rw [hE, Sp.cgTail, if_pos hEnd]
      exact ⟨hO, hr, hG⟩
     try norm_cast at h12
     refine rK ?_
     try simp only [Decidable.not_not] at h7
     try simp only [Decidable.not_not] at h11
     try simp only [Decidable.not_not] at h12
     have hEnd : Sp.ends left = false := by
      first | (exfalso; omega) | (simp [Sp.ends, h7, h11, h12]; done)
     exact cT [(0, pP g), (1, .bool pe), (5, .slice (some ⟨bl, 0, none⟩) left.cnt cl), (7, .int .i64 (op : Int))] rfl ⟨rfl, hL, hr, hG, hEnd⟩
    try norm_cast at h11
    refine pr 6 rfl<|ns<|cF rfl<|rK ?_
    try simp only [Decidable.not_not] at h7
    try simp only [Decidable.not_not] at h11
    have hEnd : Sp.ends left = false := by
     first | (exfalso; omega) | (simp [Sp.ends, h7, h11]; done)
    exact cT [(0, pP g), (1, .bool pe), (5, .slice (some ⟨bl, 0, none⟩) left.cnt cl), (7, .int .i64 (op : Int))] rfl ⟨rfl, hL, hr, hG, hEnd⟩
   rintro l w ⟨rfl, hL, hr, hG, hEnd⟩
   have hN : NodesAt w bl (0 + 0 * 8) left.enc := NodesAt.of_own hL
   have hr : RK g s p2 b2 u2 ps _ := hr
   refine rR<|pr 1 rfl<|qq (R.build (vs := SelN.cells ⟨22, op, [], [], 0, 0, 0⟩ 0) (ps := [(0, .int .i64 22), (1, .int .i64 (op : Int))]) (fun a ha => by simp [evalC, ha.ev (x := .tmp 94) rfl]) kR) rfl<|pr 3 rfl<|eN en25 rfl (compound_calls g s p2 b2 u2 ps _ hr hb om grp hgle (hgrp.mono om) pe) fun v w hv => ?_
   obtain ⟨t13, p13, b13, u13, e13, hp13a, hp13b, hb13, hu13⟩ := Sp.Le.split (f := Sp.compound grp pe ⟨s, p2, b2, u2, ps⟩) (Sp.compound_le grp hgle pe ⟨s, p2, b2, u2, ps⟩ okk).1
   have hc13 : t13.cnt ≤ 2 + 4 * (p13 - (p2)) := by have := (Sp.compound_le grp hgle pe ⟨s, p2, b2, u2, ps⟩ okk).2; rw [e13] at this; exact this
   have hk13 : t13.top.kind ≠ 22 := by have := Sp.compound_kind grp pe ⟨s, p2, b2, u2, ps⟩; rw [e13] at this; exact this
   obtain ⟨hY, hro, hv⟩ := hv
   rw [e13] at hY hro
   have hY : World.ownsRow w _ 53 8 v t13.cnt t13.enc := hY
   obtain ⟨bk, ck, rfl⟩ := own_slice hY (ST.cnt_pos _)
   have hY : OwnT w0.heap.size w (.slice (some ⟨bk, 0, none⟩) t13.cnt ck) t13 := own_mono hY hG.size
   clear hr
   have hr : RD g ⟨s, p13, b13, u13, ps⟩ w := hro
   clear hro
   have hG := hG.trans hv
   have hL := hL.gr hv au
   have hN := hN.gr hv au
   have hr : RK g s p13 b13 u13 ps _ := hr
   refine W.buildSlice (ps := [(0, .slice (some ⟨bl, 0, none⟩) left.cnt cl), (1, .slice (some ⟨bk, 0, none⟩) t13.cnt ck)]) (fun a ha => by simp [ha.ev (x := .tmp 96) rfl, ha.ev (x := .tmp 99) rfl]) (row28b _ _ _ _ _ _) rfl fun w kb hkz hB hv => ?_
   have hr := hr.grN hv
   have hL := hL.grN hv
   have hN := hN.grN hv
   have hY := hY.grN hv
   have hG := hG.trans (hv.no _)
   refine eN en19 rfl (SelMade2 ⟨22, op, [], [], 0, 0, 0⟩ left t13 _ _ kb 2 _ hB (own_mono hL (Nat.zero_le _)) (own_mono hY (Nat.zero_le _)) om) fun v w hv => ?_
   obtain ⟨hZ, hv⟩ := hv
   obtain ⟨bz, cz, rfl⟩ := own_slice hZ (ST.cnt_pos _)
   have hZ : OwnT w0.heap.size w (.slice (some ⟨bz, 0, none⟩) (ST.node ⟨22, op, [], [], 0, 0, 0⟩ [left, t13]).cnt cz) (ST.node ⟨22, op, [], [], 0, 0, 0⟩ [left, t13]) := own_mono hZ hG.size
   have hr := hr.grN hv
   have hG := hG.trans (hv.no _)
   have hL := hL.gr hv au
   have hN := hN.gr hv au
   have hY := hY.gr hv au
   refine pr 1 rfl<|nB ?_
   rw [Sp.cgTail, if_neg (by rw [hEnd]; decide), e13] at hE
   have hcz : (ST.node ⟨22, op, [], [], 0, 0, 0⟩ [left, t13]).cnt = 1 + (left.cnt + (t13.cnt + 0)) := by rw [ST.cnt, ST.cntL, ST.cntL, ST.cntL]
   exact cT [(0, pP g), (1, .bool pe), (5, .slice (some ⟨bz, 0, none⟩) (ST.node ⟨22, op, [], [], 0, 0, 0⟩ [left, t13]).cnt cz)] rfl ⟨m, om, bz, cz, _, _, _, _, rfl, hZ, OkLast.comb _ _ t13 rfl rfl (OkLast.of_kind aM), hr, hG, hE, Or.inr om, om, om, om⟩
  try norm_cast at h5
  refine qr<|qq (R.eqI rfl rfl) rfl<|pr 1 rfl<|ns<|cD rfl (fun h14 => ?_) fun h14 => ?_
  ·try norm_cast at h14
   refine rR<|pr 1 rfl<|nbs<|C.cut (fun l w' => ∃ (op p2 : Nat) (b2 u2 : Bool), l = [(0, pP g), (1, .bool pe), (5, .slice (some ⟨bl, 0, none⟩) left.cnt cl), (7, .int .i64 (op : Int))] ∧ OwnT w0.heap.size w' (.slice (some ⟨bl, 0, none⟩) left.cnt cl) left ∧ RD g ⟨s, p2, b2, u2, ps⟩ w' ∧ Gr w0 w' (some g) ∧ Sp.complex grp pe ⟨s, p0, b0, u0, ps⟩ = Sp.cgTail grp pe m left op ⟨s, p2, b2, u2, ps⟩ ∧ s.length + 1 < p2 + m ∧ p0 + 1 ≤ p2 ∧ p2 ≤ s.length + 1 ∧ left.cnt + 2 ≤ 4 * (p2 - p0)) ?_ ?_
   ·refine rO<|qr<|pr 1 rfl<|qq (R.gtI rfl rfl) rfl<|pr 1 rfl<|ns<|cV rfl<|rQ ?_
    have hps := Sp.nx_pos (s := s) (p := p4) om
    refine rR<|pr 2 rfl<|fA fo38_1 rfl<|lD sc3 hr rfl rfl<|aK rfl rfl<|pr 1 rfl<|fA fo38_1 rfl<|sT sc3 hr rfl fun w hr hs => ?_
    have hL := hL.gr hs au
    have hr : RK g s (p4 + 1) b4 u4 ps _ := hr
    have hG := hG.trans hs
    refine nsr<|pr 1 rfl<|eN en24 rfl (spaces_calls g ⟨s, p4 + 1, b4, u4, ps⟩ _ hr hb sO) fun v w hv => ?_
    obtain ⟨v15, p15, b15, u15, e15, hp15a, hp15b, hb15, hu15⟩ := Sp.Le.split (f := Sp.spaces ⟨s, p4 + 1, b4, u4, ps⟩) (Sp.spaces_le ⟨s, p4 + 1, b4, u4, ps⟩ okk)
    obtain ⟨hv1, hro, hv⟩ := hv
    rw [e15] at hv1 hro
    have hv1 : v = .bool v15 := hv1
    subst hv1
    clear hr
    have hr : RD g ⟨s, p15, b15, u15, ps⟩ w := hro
    clear hro
    have hG := hG.trans hv
    have hL := hL.gr hv au
    have hr : RK g s p15 b15 u15 ps _ := hr
    refine nB ?_
    rw [Sp.cg_op (op := 3) rfl e4 (by rw [Sp.opOf, Sp.next_mk, if_neg om, if_pos om]) dC e15] at hE
    exact cT [(0, pP g), (1, .bool pe), (5, .slice (some ⟨bl, 0, none⟩) left.cnt cl), (7, .int .i64 ((3 : Nat) : Int))] rfl ⟨3, _, _, _, rfl, hL, hr, hG, hE, om, om, om, om⟩
   rintro l w ⟨op, p2, b2, u2, rfl, hL, hr, hG, hE, hm, hp3, hp4, hct2⟩
   have hN : NodesAt w bl (0 + 0 * 8) left.enc := NodesAt.of_own hL
   have hcl := ST.cnt_pos left
   have hblg : w0.heap.size ≤ bl := (World.ownsRow.lt hL bl rfl).1
   have hr : RK g s p2 b2 u2 ps _ := hr
   refine C.cut (fun l w' => l = [(0, pP g), (1, .bool pe), (5, .slice (some ⟨bl, 0, none⟩) left.cnt cl), (7, .int .i64 (op : Int))] ∧ OwnT w0.heap.size w' (.slice (some ⟨bl, 0, none⟩) left.cnt cl) left ∧ RD g ⟨s, p2, b2, u2, ps⟩ w' ∧ Gr w0 w' (some g) ∧ Sp.ends left = false) ?_ ?_
   ·refine qr<|pr 1 rfl<|qq (R.idxA rfl rfl 0 rfl om sl22) rfl<|fA fo53_0 rfl<|qq (R.loadC sc3 rfl hN.kind) rfl<|W.split (R.eqI rfl rfl) rfl rfl rfl (fun h16 => ?_) (fun h16 => ?_)
    ·try norm_cast at h16
     refine pr 2 rfl<|gg (R.idxA rfl rfl 0 rfl om sl22) rfl<|gg (R.fieldAddr fo53_3 rfl) rfl<|gg (R.loadC sc9 rfl hN.val) rfl<|W.gsplit rfl (R.neS rfl rfl) rfl rfl rfl (fun h17 => ?_) (fun h17 => ?_)
     ·try norm_cast at h17
      refine pr 13 rfl<|ns<|cV rfl<|qr<|pr 2 rfl<|fA fo38_3 rfl<|sT sc4 hr rfl fun w hr hs => ?_
      have hL := hL.gr hs au
      have hN := hN.gr hs au
      have hr : RK g s p2 b2 true ps _ := hr
      have hG := hG.trans hs
      refine nsqr<|pr 1 rfl<|eN en28 rfl (fail_calls g s p2 b2 true ps _ hr) fun v w hv => ?_
      obtain ⟨hO, hr, hv⟩ := hv
      have hO := own_mono hO hG.size
      have hG := hG.trans hv
      have hL := hL.gr hv au
      have hN := hN.gr hv au
      have hr : RK g s p2 true true ps _ := hr
      refine pr 1 rfl<|nsth<|rC<|rH<|rC<|rH ?_
      try simp only [Decidable.not_not] at h16
      try simp only [Decidable.not_not] at h17
      have hEnd : Sp.ends left = true := by
       first | (exfalso; omega) | (simp [Sp.ends, h16, h17]; done)
      refine rA rfl rfl ?_
      rw [hE, Sp.cgTail, if_pos hEnd]
      exact ⟨hO, hr, hG⟩
     try norm_cast at h17
     refine pr 3 rfl<|gg (R.idxA rfl rfl 0 rfl om sl22) rfl<|gg (R.fieldAddr fo53_0 rfl) rfl<|gg (R.loadC sc3 rfl hN.kind) rfl<|W.gsplit rfl (R.eqI rfl rfl) rfl rfl rfl (fun h18 => ?_) (fun h18 => ?_)
     ·try norm_cast at h18
      refine pr 2 rfl<|gN rfl en27 rfl (lastPseudo_calls bl 0 left.cnt cl left _ hN hOL (Nat.le_refl _) om) fun v w hv => ?_
      obtain ⟨rfl, hv⟩ := hv
      have hr := hr.grN hv
      have hG := hG.trans (hv.no _)
      have hL := hL.gr hv au
      have hN := hN.gr hv au
      refine gg (R.neS rfl rfl) rfl<|pr 2 rfl<|ns<|cD rfl (fun h19 => ?_) fun h19 => ?_
      ·try norm_cast at h19
       refine qr<|pr 2 rfl<|fA fo38_3 rfl<|sT sc4 hr rfl fun w hr hs => ?_
       have hL := hL.gr hs au
       have hN := hN.gr hs au
       have hr : RK g s p2 b2 true ps _ := hr
       have hG := hG.trans hs
       refine nsqr<|pr 1 rfl<|eN en28 rfl (fail_calls g s p2 b2 true ps _ hr) fun v w hv => ?_
       obtain ⟨hO, hr, hv⟩ := hv
       have hO := own_mono hO hG.size
       have hG := hG.trans hv
       have hL := hL.gr hv au
       have hN := hN.gr hv au
       have hr : RK g s p2 true true ps _ := hr
       refine pr 1 rfl<|nsth<|rC<|rH<|rC<|rH ?_
       try simp only [Decidable.not_not] at h16
       try simp only [Decidable.not_not] at h17
       try simp only [Decidable.not_not] at h18
       try simp only [Decidable.not_not] at h19
       have hEnd : Sp.ends left = true := by
        first | (exfalso; omega) | (simp [Sp.ends, h16, h17, h18, h19]; done)
       refine rA rfl rfl ?_
       rw [hE, Sp.cgTail, if_pos hEnd]
       exact ⟨hO, hr, hG⟩
      try norm_cast at h19
      refine rK ?_
      try simp only [Decidable.not_not] at h16
      try simp only [Decidable.not_not] at h17
      try simp only [Decidable.not_not] at h18
      try simp only [Decidable.not_not] at h19
      have hEnd : Sp.ends left = false := by
       first | (exfalso; omega) | (simp [Sp.ends, h16, h17, h18, h19]; done)
      exact cT [(0, pP g), (1, .bool pe), (5, .slice (some ⟨bl, 0, none⟩) left.cnt cl), (7, .int .i64 (op : Int))] rfl ⟨rfl, hL, hr, hG, hEnd⟩
     try norm_cast at h18
     refine pr 6 rfl<|ns<|cF rfl<|rK ?_
     try simp only [Decidable.not_not] at h16
     try simp only [Decidable.not_not] at h17
     try simp only [Decidable.not_not] at h18
     have hEnd : Sp.ends left = false := by
      first | (exfalso; omega) | (simp [Sp.ends, h16, h17, h18]; done)
     exact cT [(0, pP g), (1, .bool pe), (5, .slice (some ⟨bl, 0, none⟩) left.cnt cl), (7, .int .i64 (op : Int))] rfl ⟨rfl, hL, hr, hG, hEnd⟩
    try norm_cast at h16
    refine pr 9 rfl<|gg (R.idxA rfl rfl 0 rfl om sl22) rfl<|gg (R.fieldAddr fo53_0 rfl) rfl<|gg (R.loadC sc3 rfl hN.kind) rfl<|W.gsplit rfl (R.eqI rfl rfl) rfl rfl rfl (fun h20 => ?_) (fun h20 => ?_)
    ·try norm_cast at h20
     refine pr 2 rfl<|gN rfl en27 rfl (lastPseudo_calls bl 0 left.cnt cl left _ hN hOL (Nat.le_refl _) om) fun v w hv => ?_
     obtain ⟨rfl, hv⟩ := hv
     have hr := hr.grN hv
     have hG := hG.trans (hv.no _)
     have hL := hL.gr hv au
     have hN := hN.gr hv au
     refine gg (R.neS rfl rfl) rfl<|pr 2 rfl<|ns<|cD rfl (fun h21 => ?_) fun h21 => ?_
     ·try norm_cast at h21
      refine qr<|pr 2 rfl<|fA fo38_3 rfl<|sT sc4 hr rfl fun w hr hs => ?_
      have hL := hL.gr hs au
      have hN := hN.gr hs au
      have hr : RK g s p2 b2 true ps _ := hr
      have hG := hG.trans hs
      refine nsqr<|pr 1 rfl<|eN en28 rfl (fail_calls g s p2 b2 true ps _ hr) fun v w hv => ?_
      obtain ⟨hO, hr, hv⟩ := hv
      have hO := own_mono hO hG.size
      have hG := hG.trans hv
      have hL := hL.gr hv au
      have hN := hN.gr hv au
      have hr : RK g s p2 true true ps _ := hr
      refine pr 1 rfl<|nsth<|rC<|rH<|rC<|rH ?_
      try simp only [Decidable.not_not] at h16
      try simp only [Decidable.not_not] at h20
      try simp only [Decidable.not_not] at h21
      have hEnd : Sp.ends left = true := by
       first | (exfalso; omega) | (simp [Sp.ends, h16, h20, h21]; done)
      refine rA rfl rfl ?_
      rw [hE, Sp.cgTail, if_pos hEnd]
      exact ⟨hO, hr, hG⟩
     try norm_cast at h21
     refine rK ?_
     try simp only [Decidable.not_not] at h16
     try simp only [Decidable.not_not] at h20
     try simp only [Decidable.not_not] at h21
     have hEnd : Sp.ends left = false := by
      first | (exfalso; omega) | (simp [Sp.ends, h16, h20, h21]; done)
     exact cT [(0, pP g), (1, .bool pe), (5, .slice (some ⟨bl, 0, none⟩) left.cnt cl), (7, .int .i64 (op : Int))] rfl ⟨rfl, hL, hr, hG, hEnd⟩
    try norm_cast at h20
    refine pr 6 rfl<|ns<|cF rfl<|rK ?_
    try simp only [Decidable.not_not] at h16
    try simp only [Decidable.not_not] at h20
    have hEnd : Sp.ends left = false := by
     first | (exfalso; omega) | (simp [Sp.ends, h16, h20]; done)
    exact cT [(0, pP g), (1, .bool pe), (5, .slice (some ⟨bl, 0, none⟩) left.cnt cl), (7, .int .i64 (op : Int))] rfl ⟨rfl, hL, hr, hG, hEnd⟩
   rintro l w ⟨rfl, hL, hr, hG, hEnd⟩
   have hN : NodesAt w bl (0 + 0 * 8) left.enc := NodesAt.of_own hL
   have hr : RK g s p2 b2 u2 ps _ := hr
   refine rR<|pr 1 rfl<|qq (R.build (vs := SelN.cells ⟨22, op, [], [], 0, 0, 0⟩ 0) (ps := [(0, .int .i64 22), (1, .int .i64 (op : Int))]) (fun a ha => by simp [evalC, ha.ev (x := .tmp 94) rfl]) kR) rfl<|pr 3 rfl<|eN en25 rfl (compound_calls g s p2 b2 u2 ps _ hr hb om grp hgle (hgrp.mono om) pe) fun v w hv => ?_
   obtain ⟨t22, p22, b22, u22, e22, hp22a, hp22b, hb22, hu22⟩ := Sp.Le.split (f := Sp.compound grp pe ⟨s, p2, b2, u2, ps⟩) (Sp.compound_le grp hgle pe ⟨s, p2, b2, u2, ps⟩ okk).1
   have hc22 : t22.cnt ≤ 2 + 4 * (p22 - (p2)) := by have := (Sp.compound_le grp hgle pe ⟨s, p2, b2, u2, ps⟩ okk).2; rw [e22] at this; exact this
   have hk22 : t22.top.kind ≠ 22 := by have := Sp.compound_kind grp pe ⟨s, p2, b2, u2, ps⟩; rw [e22] at this; exact this
   obtain ⟨hY, hro, hv⟩ := hv
   rw [e22] at hY hro
   have hY : World.ownsRow w _ 53 8 v t22.cnt t22.enc := hY
   obtain ⟨bk, ck, rfl⟩ := own_slice hY (ST.cnt_pos _)
   have hY : OwnT w0.heap.size w (.slice (some ⟨bk, 0, none⟩) t22.cnt ck) t22 := own_mono hY hG.size
   clear hr
   have hr : RD g ⟨s, p22, b22, u22, ps⟩ w := hro
   clear hro
   have hG := hG.trans hv
   have hL := hL.gr hv au
   have hN := hN.gr hv au
   have hr : RK g s p22 b22 u22 ps _ := hr
   refine W.buildSlice (ps := [(0, .slice (some ⟨bl, 0, none⟩) left.cnt cl), (1, .slice (some ⟨bk, 0, none⟩) t22.cnt ck)]) (fun a ha => by simp [ha.ev (x := .tmp 96) rfl, ha.ev (x := .tmp 99) rfl]) (row28b _ _ _ _ _ _) rfl fun w kb hkz hB hv => ?_
   have hr := hr.grN hv
   have hL := hL.grN hv
   have hN := hN.grN hv
   have hY := hY.grN hv
   have hG := hG.trans (hv.no _)
   refine eN en19 rfl (SelMade2 ⟨22, op, [], [], 0, 0, 0⟩ left t22 _ _ kb 2 _ hB (own_mono hL (Nat.zero_le _)) (own_mono hY (Nat.zero_le _)) om) fun v w hv => ?_
   obtain ⟨hZ, hv⟩ := hv
   obtain ⟨bz, cz, rfl⟩ := own_slice hZ (ST.cnt_pos _)
   have hZ : OwnT w0.heap.size w (.slice (some ⟨bz, 0, none⟩) (ST.node ⟨22, op, [], [], 0, 0, 0⟩ [left, t22]).cnt cz) (ST.node ⟨22, op, [], [], 0, 0, 0⟩ [left, t22]) := own_mono hZ hG.size
   have hr := hr.grN hv
   have hG := hG.trans (hv.no _)
   have hL := hL.gr hv au
   have hN := hN.gr hv au
   have hY := hY.gr hv au
   refine pr 1 rfl<|nB ?_
   rw [Sp.cgTail, if_neg (by rw [hEnd]; decide), e22] at hE
   have hcz : (ST.node ⟨22, op, [], [], 0, 0, 0⟩ [left, t22]).cnt = 1 + (left.cnt + (t22.cnt + 0)) := by rw [ST.cnt, ST.cntL, ST.cntL, ST.cntL]
   exact cT [(0, pP g), (1, .bool pe), (5, .slice (some ⟨bz, 0, none⟩) (ST.node ⟨22, op, [], [], 0, 0, 0⟩ [left, t22]).cnt cz)] rfl ⟨m, om, bz, cz, _, _, _, _, rfl, hZ, OkLast.comb _ _ t22 rfl rfl (OkLast.of_kind aM), hr, hG, hE, Or.inr om, om, om, om⟩
  try norm_cast at h14
  refine qr<|qq (R.eqI rfl rfl) rfl<|pr 1 rfl<|ns<|cD rfl (fun h23 => ?_) fun h23 => ?_
  ·try norm_cast at h23
   refine rR<|pr 1 rfl<|nbs<|C.cut (fun l w' => ∃ (op p2 : Nat) (b2 u2 : Bool), l = [(0, pP g), (1, .bool pe), (5, .slice (some ⟨bl, 0, none⟩) left.cnt cl), (7, .int .i64 (op : Int))] ∧ OwnT w0.heap.size w' (.slice (some ⟨bl, 0, none⟩) left.cnt cl) left ∧ RD g ⟨s, p2, b2, u2, ps⟩ w' ∧ Gr w0 w' (some g) ∧ Sp.complex grp pe ⟨s, p0, b0, u0, ps⟩ = Sp.cgTail grp pe m left op ⟨s, p2, b2, u2, ps⟩ ∧ s.length + 1 < p2 + m ∧ p0 + 1 ≤ p2 ∧ p2 ≤ s.length + 1 ∧ left.cnt + 2 ≤ 4 * (p2 - p0)) ?_ ?_
   ·refine rO<|qr<|pr 1 rfl<|qq (R.gtI rfl rfl) rfl<|pr 1 rfl<|ns<|cV rfl<|rQ ?_
    have hps := Sp.nx_pos (s := s) (p := p4) om
    refine rR<|pr 2 rfl<|fA fo38_1 rfl<|lD sc3 hr rfl rfl<|aK rfl rfl<|pr 1 rfl<|fA fo38_1 rfl<|sT sc3 hr rfl fun w hr hs => ?_
    have hL := hL.gr hs au
    have hr : RK g s (p4 + 1) b4 u4 ps _ := hr
    have hG := hG.trans hs
    refine nsr<|pr 1 rfl<|eN en24 rfl (spaces_calls g ⟨s, p4 + 1, b4, u4, ps⟩ _ hr hb sO) fun v w hv => ?_
    obtain ⟨v24, p24, b24, u24, e24, hp24a, hp24b, hb24, hu24⟩ := Sp.Le.split (f := Sp.spaces ⟨s, p4 + 1, b4, u4, ps⟩) (Sp.spaces_le ⟨s, p4 + 1, b4, u4, ps⟩ okk)
    obtain ⟨hv1, hro, hv⟩ := hv
    rw [e24] at hv1 hro
    have hv1 : v = .bool v24 := hv1
    subst hv1
    clear hr
    have hr : RD g ⟨s, p24, b24, u24, ps⟩ w := hro
    clear hro
    have hG := hG.trans hv
    have hL := hL.gr hv au
    have hr : RK g s p24 b24 u24 ps _ := hr
    refine nB ?_
    rw [Sp.cg_op (op := 4) rfl e4 (by rw [Sp.opOf, Sp.next_mk, if_neg om, if_neg om, if_pos om]) dC e24] at hE
    exact cT [(0, pP g), (1, .bool pe), (5, .slice (some ⟨bl, 0, none⟩) left.cnt cl), (7, .int .i64 ((4 : Nat) : Int))] rfl ⟨4, _, _, _, rfl, hL, hr, hG, hE, om, om, om, om⟩
   rintro l w ⟨op, p2, b2, u2, rfl, hL, hr, hG, hE, hm, hp3, hp4, hct2⟩
   have hN : NodesAt w bl (0 + 0 * 8) left.enc := NodesAt.of_own hL
   have hcl := ST.cnt_pos left
   have hblg : w0.heap.size ≤ bl := (World.ownsRow.lt hL bl rfl).1
   have hr : RK g s p2 b2 u2 ps _ := hr
   refine C.cut (fun l w' => l = [(0, pP g), (1, .bool pe), (5, .slice (some ⟨bl, 0, none⟩) left.cnt cl), (7, .int .i64 (op : Int))] ∧ OwnT w0.heap.size w' (.slice (some ⟨bl, 0, none⟩) left.cnt cl) left ∧ RD g ⟨s, p2, b2, u2, ps⟩ w' ∧ Gr w0 w' (some g) ∧ Sp.ends left = false) ?_ ?_
   ·refine qr<|pr 1 rfl<|qq (R.idxA rfl rfl 0 rfl om sl22) rfl<|fA fo53_0 rfl<|qq (R.loadC sc3 rfl hN.kind) rfl<|W.split (R.eqI rfl rfl) rfl rfl rfl (fun h25 => ?_) (fun h25 => ?_)
    ·try norm_cast at h25
     refine pr 2 rfl<|gg (R.idxA rfl rfl 0 rfl om sl22) rfl<|gg (R.fieldAddr fo53_3 rfl) rfl<|gg (R.loadC sc9 rfl hN.val) rfl<|W.gsplit rfl (R.neS rfl rfl) rfl rfl rfl (fun h26 => ?_) (fun h26 => ?_)
     ·try norm_cast at h26
      refine pr 13 rfl<|ns<|cV rfl<|qr<|pr 2 rfl<|fA fo38_3 rfl<|sT sc4 hr rfl fun w hr hs => ?_
      have hL := hL.gr hs au
      have hN := hN.gr hs au
      have hr : RK g s p2 b2 true ps _ := hr
      have hG := hG.trans hs
      refine nsqr<|pr 1 rfl<|eN en28 rfl (fail_calls g s p2 b2 true ps _ hr) fun v w hv => ?_
      obtain ⟨hO, hr, hv⟩ := hv
      have hO := own_mono hO hG.size
      have hG := hG.trans hv
      have hL := hL.gr hv au
      have hN := hN.gr hv au
      have hr : RK g s p2 true true ps _ := hr
      refine pr 1 rfl<|nsth<|rC<|rH<|rC<|rH ?_
      try simp only [Decidable.not_not] at h25
      try simp only [Decidable.not_not] at h26
      have hEnd : Sp.ends left = true := by
       first | (exfalso; omega) | (simp [Sp.ends, h25, h26]; done)
      refine rA rfl rfl ?_
      rw [hE, Sp.cgTail, if_pos hEnd]
      exact ⟨hO, hr, hG⟩
     try norm_cast at h26
     refine pr 3 rfl<|gg (R.idxA rfl rfl 0 rfl om sl22) rfl<|gg (R.fieldAddr fo53_0 rfl) rfl<|gg (R.loadC sc3 rfl hN.kind) rfl<|W.gsplit rfl (R.eqI rfl rfl) rfl rfl rfl (fun h27 => ?_) (fun h27 => ?_)
     ·try norm_cast at h27
      refine pr 2 rfl<|gN rfl en27 rfl (lastPseudo_calls bl 0 left.cnt cl left _ hN hOL (Nat.le_refl _) om) fun v w hv => ?_
      obtain ⟨rfl, hv⟩ := hv
      have hr := hr.grN hv
      have hG := hG.trans (hv.no _)
      have hL := hL.gr hv au
      have hN := hN.gr hv au
      refine gg (R.neS rfl rfl) rfl<|pr 2 rfl<|ns<|cD rfl (fun h28 => ?_) fun h28 => ?_
      ·try norm_cast at h28
       refine qr<|pr 2 rfl<|fA fo38_3 rfl<|sT sc4 hr rfl fun w hr hs => ?_
       have hL := hL.gr hs au
       have hN := hN.gr hs au
       have hr : RK g s p2 b2 true ps _ := hr
       have hG := hG.trans hs
       refine nsqr<|pr 1 rfl<|eN en28 rfl (fail_calls g s p2 b2 true ps _ hr) fun v w hv => ?_
       obtain ⟨hO, hr, hv⟩ := hv
       have hO := own_mono hO hG.size
       have hG := hG.trans hv
       have hL := hL.gr hv au
       have hN := hN.gr hv au
       have hr : RK g s p2 true true ps _ := hr
       refine pr 1 rfl<|nsth<|rC<|rH<|rC<|rH ?_
       try simp only [Decidable.not_not] at h25
       try simp only [Decidable.not_not] at h26
       try simp only [Decidable.not_not] at h27
       try simp only [Decidable.not_not] at h28
       have hEnd : Sp.ends left = true := by
        first | (exfalso; omega) | (simp [Sp.ends, h25, h26, h27, h28]; done)
       refine rA rfl rfl ?_
       rw [hE, Sp.cgTail, if_pos hEnd]
       exact ⟨hO, hr, hG⟩
      try norm_cast at h28
      refine rK ?_
      try simp only [Decidable.not_not] at h25
      try simp only [Decidable.not_not] at h26
      try simp only [Decidable.not_not] at h27
      try simp only [Decidable.not_not] at h28
      have hEnd : Sp.ends left = false := by
       first | (exfalso; omega) | (simp [Sp.ends, h25, h26, h27, h28]; done)
      exact cT [(0, pP g), (1, .bool pe), (5, .slice (some ⟨bl, 0, none⟩) left.cnt cl), (7, .int .i64 (op : Int))] rfl ⟨rfl, hL, hr, hG, hEnd⟩
     try norm_cast at h27
     refine pr 6 rfl<|ns<|cF rfl<|rK ?_
     try simp only [Decidable.not_not] at h25
     try simp only [Decidable.not_not] at h26
     try simp only [Decidable.not_not] at h27
     have hEnd : Sp.ends left = false := by
      first | (exfalso; omega) | (simp [Sp.ends, h25, h26, h27]; done)
     exact cT [(0, pP g), (1, .bool pe), (5, .slice (some ⟨bl, 0, none⟩) left.cnt cl), (7, .int .i64 (op : Int))] rfl ⟨rfl, hL, hr, hG, hEnd⟩
    try norm_cast at h25
    refine pr 9 rfl<|gg (R.idxA rfl rfl 0 rfl om sl22) rfl<|gg (R.fieldAddr fo53_0 rfl) rfl<|gg (R.loadC sc3 rfl hN.kind) rfl<|W.gsplit rfl (R.eqI rfl rfl) rfl rfl rfl (fun h29 => ?_) (fun h29 => ?_)
    ·try norm_cast at h29
     refine pr 2 rfl<|gN rfl en27 rfl (lastPseudo_calls bl 0 left.cnt cl left _ hN hOL (Nat.le_refl _) om) fun v w hv => ?_
     obtain ⟨rfl, hv⟩ := hv
     have hr := hr.grN hv
     have hG := hG.trans (hv.no _)
     have hL := hL.gr hv au
     have hN := hN.gr hv au
     refine gg (R.neS rfl rfl) rfl<|pr 2 rfl<|ns<|cD rfl (fun h30 => ?_) fun h30 => ?_
     ·try norm_cast at h30
      refine qr<|pr 2 rfl<|fA fo38_3 rfl<|sT sc4 hr rfl fun w hr hs => ?_
      have hL := hL.gr hs au
      have hN := hN.gr hs au
      have hr : RK g s p2 b2 true ps _ := hr
      have hG := hG.trans hs
      refine nsqr<|pr 1 rfl<|eN en28 rfl (fail_calls g s p2 b2 true ps _ hr) fun v w hv => ?_
      obtain ⟨hO, hr, hv⟩ := hv
      have hO := own_mono hO hG.size
      have hG := hG.trans hv
      have hL := hL.gr hv au
      have hN := hN.gr hv au
      have hr : RK g s p2 true true ps _ := hr
      refine pr 1 rfl<|nsth<|rC<|rH<|rC<|rH ?_
      try simp only [Decidable.not_not] at h25
      try simp only [Decidable.not_not] at h29
      try simp only [Decidable.not_not] at h30
      have hEnd : Sp.ends left = true := by
       first | (exfalso; omega) | (simp [Sp.ends, h25, h29, h30]; done)
      refine rA rfl rfl ?_
      rw [hE, Sp.cgTail, if_pos hEnd]
      exact ⟨hO, hr, hG⟩
     try norm_cast at h30
     refine rK ?_
     try simp only [Decidable.not_not] at h25
     try simp only [Decidable.not_not] at h29
     try simp only [Decidable.not_not] at h30
     have hEnd : Sp.ends left = false := by
      first | (exfalso; omega) | (simp [Sp.ends, h25, h29, h30]; done)
     exact cT [(0, pP g), (1, .bool pe), (5, .slice (some ⟨bl, 0, none⟩) left.cnt cl), (7, .int .i64 (op : Int))] rfl ⟨rfl, hL, hr, hG, hEnd⟩
    try norm_cast at h29
    refine pr 6 rfl<|ns<|cF rfl<|rK ?_
    try simp only [Decidable.not_not] at h25
    try simp only [Decidable.not_not] at h29
    have hEnd : Sp.ends left = false := by
     first | (exfalso; omega) | (simp [Sp.ends, h25, h29]; done)
    exact cT [(0, pP g), (1, .bool pe), (5, .slice (some ⟨bl, 0, none⟩) left.cnt cl), (7, .int .i64 (op : Int))] rfl ⟨rfl, hL, hr, hG, hEnd⟩
   rintro l w ⟨rfl, hL, hr, hG, hEnd⟩
   have hN : NodesAt w bl (0 + 0 * 8) left.enc := NodesAt.of_own hL
   have hr : RK g s p2 b2 u2 ps _ := hr
   refine rR<|pr 1 rfl<|qq (R.build (vs := SelN.cells ⟨22, op, [], [], 0, 0, 0⟩ 0) (ps := [(0, .int .i64 22), (1, .int .i64 (op : Int))]) (fun a ha => by simp [evalC, ha.ev (x := .tmp 94) rfl]) kR) rfl<|pr 3 rfl<|eN en25 rfl (compound_calls g s p2 b2 u2 ps _ hr hb om grp hgle (hgrp.mono om) pe) fun v w hv => ?_
   obtain ⟨t31, p31, b31, u31, e31, hp31a, hp31b, hb31, hu31⟩ := Sp.Le.split (f := Sp.compound grp pe ⟨s, p2, b2, u2, ps⟩) (Sp.compound_le grp hgle pe ⟨s, p2, b2, u2, ps⟩ okk).1
   have hc31 : t31.cnt ≤ 2 + 4 * (p31 - (p2)) := by have := (Sp.compound_le grp hgle pe ⟨s, p2, b2, u2, ps⟩ okk).2; rw [e31] at this; exact this
   have hk31 : t31.top.kind ≠ 22 := by have := Sp.compound_kind grp pe ⟨s, p2, b2, u2, ps⟩; rw [e31] at this; exact this
   obtain ⟨hY, hro, hv⟩ := hv
   rw [e31] at hY hro
   have hY : World.ownsRow w _ 53 8 v t31.cnt t31.enc := hY
   obtain ⟨bk, ck, rfl⟩ := own_slice hY (ST.cnt_pos _)
   have hY : OwnT w0.heap.size w (.slice (some ⟨bk, 0, none⟩) t31.cnt ck) t31 := own_mono hY hG.size
   clear hr
   have hr : RD g ⟨s, p31, b31, u31, ps⟩ w := hro
   clear hro
   have hG := hG.trans hv
   have hL := hL.gr hv au
   have hN := hN.gr hv au
   have hr : RK g s p31 b31 u31 ps _ := hr
   refine W.buildSlice (ps := [(0, .slice (some ⟨bl, 0, none⟩) left.cnt cl), (1, .slice (some ⟨bk, 0, none⟩) t31.cnt ck)]) (fun a ha => by simp [ha.ev (x := .tmp 96) rfl, ha.ev (x := .tmp 99) rfl]) (row28b _ _ _ _ _ _) rfl fun w kb hkz hB hv => ?_
   have hr := hr.grN hv
   have hL := hL.grN hv
   have hN := hN.grN hv
   have hY := hY.grN hv
   have hG := hG.trans (hv.no _)
   refine eN en19 rfl (SelMade2 ⟨22, op, [], [], 0, 0, 0⟩ left t31 _ _ kb 2 _ hB (own_mono hL (Nat.zero_le _)) (own_mono hY (Nat.zero_le _)) om) fun v w hv => ?_
   obtain ⟨hZ, hv⟩ := hv
   obtain ⟨bz, cz, rfl⟩ := own_slice hZ (ST.cnt_pos _)
   have hZ : OwnT w0.heap.size w (.slice (some ⟨bz, 0, none⟩) (ST.node ⟨22, op, [], [], 0, 0, 0⟩ [left, t31]).cnt cz) (ST.node ⟨22, op, [], [], 0, 0, 0⟩ [left, t31]) := own_mono hZ hG.size
   have hr := hr.grN hv
   have hG := hG.trans (hv.no _)
   have hL := hL.gr hv au
   have hN := hN.gr hv au
   have hY := hY.gr hv au
   refine pr 1 rfl<|nB ?_
   rw [Sp.cgTail, if_neg (by rw [hEnd]; decide), e31] at hE
   have hcz : (ST.node ⟨22, op, [], [], 0, 0, 0⟩ [left, t31]).cnt = 1 + (left.cnt + (t31.cnt + 0)) := by rw [ST.cnt, ST.cntL, ST.cntL, ST.cntL]
   exact cT [(0, pP g), (1, .bool pe), (5, .slice (some ⟨bz, 0, none⟩) (ST.node ⟨22, op, [], [], 0, 0, 0⟩ [left, t31]).cnt cz)] rfl ⟨m, om, bz, cz, _, _, _, _, rfl, hZ, OkLast.comb _ _ t31 rfl rfl (OkLast.of_kind aM), hr, hG, hE, Or.inr om, om, om, om⟩
  try norm_cast at h23
  refine rK<|bS<|C.cut (fun l w' => ∃ (op p2 : Nat) (b2 u2 : Bool), l = [(0, pP g), (1, .bool pe), (5, .slice (some ⟨bl, 0, none⟩) left.cnt cl), (7, .int .i64 (op : Int))] ∧ OwnT w0.heap.size w' (.slice (some ⟨bl, 0, none⟩) left.cnt cl) left ∧ RD g ⟨s, p2, b2, u2, ps⟩ w' ∧ Gr w0 w' (some g) ∧ Sp.complex grp pe ⟨s, p0, b0, u0, ps⟩ = Sp.cgTail grp pe m left op ⟨s, p2, b2, u2, ps⟩ ∧ s.length + 1 < p2 + m ∧ p0 + 1 ≤ p2 ∧ p2 ≤ s.length + 1 ∧ left.cnt + 2 ≤ 4 * (p2 - p0)) ?_ ?_
  ·refine rO<|qr<|pr 1 rfl<|qq (R.gtI rfl rfl) rfl<|pr 1 rfl<|ns<|cF rfl<|rQ<|dR<|prq 2 rfl<|fQ fo38_1 rfl<|lQ sc3 hr rfl rfl<|prq 2 rfl<|fQ fo38_0 rfl<|lQ sc9 hr rfl rfl<|qw (fun w hw => R.lenS rfl u9) rfl<|Wq.split (fun w hw => R.geI rfl rfl) rfl rfl rfl (fun h32 => ?_) (fun h32 => ?_)
   ·try norm_cast at h32
    refine prq 11 rfl<|Wq.nil fun w hw => ?_
    have hr := hr.grN hw
    have hL := hL.grN hw
    have hG := hG.trans (hw.no _)
    refine rS<|cV rfl<|qr<|pr 2 rfl<|nst<|rC<|rH<|rC<|rH<|rC<|rH<|rA rfl rfl ?_
    rw [hE, Sp.cg_end rfl e4 (by rw [Sp.opOf, Sp.next_mk, if_neg om, if_neg om, if_neg om]) (by rw [Sp.next_mk]; simp only; omega)]
    exact ⟨hL, hr, hG⟩
   try norm_cast at h32
   refine prq 2 rfl<|Wq.genter rfl (fun w hw => R.call en26 rfl) rfl rfl rfl (fun w hw => (nx_calls g s p4 b4 u4 ps _ (hr.grN hw) hb om).mono fun v w' hv => ⟨hv.1, Gr.trans hw hv.2⟩)<|Wq.gsplit rfl (fun w hw => R.eqI rfl rfl) rfl rfl rfl (fun h33 => ?_) (fun h33 => ?_)
   ·try norm_cast at h33
    refine prq 7 rfl<|Wq.nil fun w hw => ?_
    have hr := hr.grN hw
    have hL := hL.grN hw
    have hG := hG.trans (hw.no _)
    refine rS<|cV rfl<|qr<|pr 2 rfl<|nst<|rC<|rH<|rC<|rH<|rC<|rH<|rA rfl rfl ?_
    rw [hE, Sp.cg_end rfl e4 (by rw [Sp.opOf, Sp.next_mk, if_neg om, if_neg om, if_neg om]) (by rw [Sp.next_mk]; simp only; omega)]
    exact ⟨hL, hr, hG⟩
   try norm_cast at h33
   refine prq 3 rfl<|Wq.genter rfl (fun w hw => R.call en26 rfl) rfl rfl rfl (fun w hw => (nx_calls g s p4 b4 u4 ps _ (hr.grN hw) hb om).mono fun v w' hv => ⟨hv.1, Gr.trans hw hv.2⟩)<|gw (fun w hw => R.eqI rfl rfl) rfl<|prq 2 rfl<|Wq.nil fun w hw => ?_
   have hr := hr.grN hw
   have hL := hL.grN hw
   have hG := hG.trans (hw.no _)
   refine rS<|cD rfl (fun h34 => ?_) fun h34 => ?_
   ·try norm_cast at h34
    refine qr<|pr 2 rfl<|nst<|rC<|rH<|rC<|rH<|rC<|rH<|rA rfl rfl ?_
    rw [hE, Sp.cg_end rfl e4 (by rw [Sp.opOf, Sp.next_mk, if_neg om, if_neg om, if_neg om]) (by rw [Sp.next_mk]; simp only; omega)]
    exact ⟨hL, hr, hG⟩
   try norm_cast at h34
   refine qr<|pr 2 rfl<|ns<|cC rfl (fun h35 => ?_) (fun h35 => ?_)
   ·try simp only [Bool.not_eq_true', Bool.not_eq_false'] at h35
    subst h35
    have hr : RK g s p4 b4 u4 ps _ := hr
    refine rR<|pr 1 rfl<|nB ?_
    have hbk := Sp.spaces_blank (r := ⟨s, p, false, u, ps⟩) (by rw [e4])
    rw [e4] at hbk
    simp only at hbk
    rw [Sp.cg_blank rfl e4 (by rw [Sp.opOf, Sp.next_mk, if_neg om, if_neg om, if_neg om]) (by rw [Sp.next_mk]; simp only; omega)] at hE
    exact cT [(0, pP g), (1, .bool pe), (5, .slice (some ⟨bl, 0, none⟩) left.cnt cl), (7, .int .i64 ((1 : Nat) : Int))] rfl ⟨1, _, _, _, rfl, hL, hr, hG, hE, om, om, om, om⟩
   try simp only [Bool.not_eq_true', Bool.not_eq_false'] at h35
   subst h35
   have hr : RK g s p4 b4 u4 ps _ := hr
   refine qr<|pr 2 rfl<|nst<|rC<|rH<|rC<|rH<|rC<|rH<|rA rfl rfl ?_
   rw [hE, Sp.cg_no rfl e4 (by rw [Sp.opOf, Sp.next_mk, if_neg om, if_neg om, if_neg om]) (by rw [Sp.next_mk]; simp only; omega)]
   exact ⟨hL, hr, hG⟩
  rintro l w ⟨op, p2, b2, u2, rfl, hL, hr, hG, hE, hm, hp3, hp4, hct2⟩
  have hN : NodesAt w bl (0 + 0 * 8) left.enc := NodesAt.of_own hL
  have hcl := ST.cnt_pos left
  have hblg : w0.heap.size ≤ bl := (World.ownsRow.lt hL bl rfl).1
  have hr : RK g s p2 b2 u2 ps _ := hr
  refine C.cut (fun l w' => l = [(0, pP g), (1, .bool pe), (5, .slice (some ⟨bl, 0, none⟩) left.cnt cl), (7, .int .i64 (op : Int))] ∧ OwnT w0.heap.size w' (.slice (some ⟨bl, 0, none⟩) left.cnt cl) left ∧ RD g ⟨s, p2, b2, u2, ps⟩ w' ∧ Gr w0 w' (some g) ∧ Sp.ends left = false) ?_ ?_
  ·refine qr<|pr 1 rfl<|qq (R.idxA rfl rfl 0 rfl om sl22) rfl<|fA fo53_0 rfl<|qq (R.loadC sc3 rfl hN.kind) rfl<|W.split (R.eqI rfl rfl) rfl rfl rfl (fun h36 => ?_) (fun h36 => ?_)
   ·try norm_cast at h36
    refine pr 2 rfl<|gg (R.idxA rfl rfl 0 rfl om sl22) rfl<|gg (R.fieldAddr fo53_3 rfl) rfl<|gg (R.loadC sc9 rfl hN.val) rfl<|W.gsplit rfl (R.neS rfl rfl) rfl rfl rfl (fun h37 => ?_) (fun h37 => ?_)
    ·try norm_cast at h37
     refine pr 13 rfl<|ns<|cV rfl<|qr<|pr 2 rfl<|fA fo38_3 rfl<|sT sc4 hr rfl fun w hr hs => ?_
     have hL := hL.gr hs au
     have hN := hN.gr hs au
     have hr : RK g s p2 b2 true ps _ := hr
     have hG := hG.trans hs
     refine nsqr<|pr 1 rfl<|eN en28 rfl (fail_calls g s p2 b2 true ps _ hr) fun v w hv => ?_
     obtain ⟨hO, hr, hv⟩ := hv
     have hO := own_mono hO hG.size
     have hG := hG.trans hv
     have hL := hL.gr hv au
     have hN := hN.gr hv au
     have hr : RK g s p2 true true ps _ := hr
     refine pr 1 rfl<|nsth<|rC<|rH<|rC<|rH ?_
     try simp only [Decidable.not_not] at h36
     try simp only [Decidable.not_not] at h37
     have hEnd : Sp.ends left = true := by
      first | (exfalso; omega) | (simp [Sp.ends, h36, h37]; done)
     refine rA rfl rfl ?_
     rw [hE, Sp.cgTail, if_pos hEnd]
     exact ⟨hO, hr, hG⟩
    try norm_cast at h37
    refine pr 3 rfl<|gg (R.idxA rfl rfl 0 rfl om sl22) rfl<|gg (R.fieldAddr fo53_0 rfl) rfl<|gg (R.loadC sc3 rfl hN.kind) rfl<|W.gsplit rfl (R.eqI rfl rfl) rfl rfl rfl (fun h38 => ?_) (fun h38 => ?_)
    ·try norm_cast at h38
     refine pr 2 rfl<|gN rfl en27 rfl (lastPseudo_calls bl 0 left.cnt cl left _ hN hOL (Nat.le_refl _) om) fun v w hv => ?_
     obtain ⟨rfl, hv⟩ := hv
     have hr := hr.grN hv
     have hG := hG.trans (hv.no _)
     have hL := hL.gr hv au
     have hN := hN.gr hv au
     refine gg (R.neS rfl rfl) rfl<|pr 2 rfl<|ns<|cD rfl (fun h39 => ?_) fun h39 => ?_
     ·try norm_cast at h39
      refine qr<|pr 2 rfl<|fA fo38_3 rfl<|sT sc4 hr rfl fun w hr hs => ?_
      have hL := hL.gr hs au
      have hN := hN.gr hs au
      have hr : RK g s p2 b2 true ps _ := hr
      have hG := hG.trans hs
      refine nsqr<|pr 1 rfl<|eN en28 rfl (fail_calls g s p2 b2 true ps _ hr) fun v w hv => ?_
      obtain ⟨hO, hr, hv⟩ := hv
      have hO := own_mono hO hG.size
      have hG := hG.trans hv
      have hL := hL.gr hv au
      have hN := hN.gr hv au
      have hr : RK g s p2 true true ps _ := hr
      refine pr 1 rfl<|nsth<|rC<|rH<|rC<|rH ?_
      try simp only [Decidable.not_not] at h36
      try simp only [Decidable.not_not] at h37
      try simp only [Decidable.not_not] at h38
      try simp only [Decidable.not_not] at h39
      have hEnd : Sp.ends left = true := by
       first | (exfalso; omega) | (simp [Sp.ends, h36, h37, h38, h39]; done)
      refine rA rfl rfl ?_
      rw [hE, Sp.cgTail, if_pos hEnd]
      exact ⟨hO, hr, hG⟩
     try norm_cast at h39
     refine rK ?_
     try simp only [Decidable.not_not] at h36
     try simp only [Decidable.not_not] at h37
     try simp only [Decidable.not_not] at h38
     try simp only [Decidable.not_not] at h39
     have hEnd : Sp.ends left = false := by
      first | (exfalso; omega) | (simp [Sp.ends, h36, h37, h38, h39]; done)
     exact cT [(0, pP g), (1, .bool pe), (5, .slice (some ⟨bl, 0, none⟩) left.cnt cl), (7, .int .i64 (op : Int))] rfl ⟨rfl, hL, hr, hG, hEnd⟩
    try norm_cast at h38
    refine pr 6 rfl<|ns<|cF rfl<|rK ?_
    try simp only [Decidable.not_not] at h36
    try simp only [Decidable.not_not] at h37
    try simp only [Decidable.not_not] at h38
    have hEnd : Sp.ends left = false := by
     first | (exfalso; omega) | (simp [Sp.ends, h36, h37, h38]; done)
    exact cT [(0, pP g), (1, .bool pe), (5, .slice (some ⟨bl, 0, none⟩) left.cnt cl), (7, .int .i64 (op : Int))] rfl ⟨rfl, hL, hr, hG, hEnd⟩
   try norm_cast at h36
   refine pr 9 rfl<|gg (R.idxA rfl rfl 0 rfl om sl22) rfl<|gg (R.fieldAddr fo53_0 rfl) rfl<|gg (R.loadC sc3 rfl hN.kind) rfl<|W.gsplit rfl (R.eqI rfl rfl) rfl rfl rfl (fun h40 => ?_) (fun h40 => ?_)
   ·try norm_cast at h40
    refine pr 2 rfl<|gN rfl en27 rfl (lastPseudo_calls bl 0 left.cnt cl left _ hN hOL (Nat.le_refl _) om) fun v w hv => ?_
    obtain ⟨rfl, hv⟩ := hv
    have hr := hr.grN hv
    have hG := hG.trans (hv.no _)
    have hL := hL.gr hv au
    have hN := hN.gr hv au
    refine gg (R.neS rfl rfl) rfl<|pr 2 rfl<|ns<|cD rfl (fun h41 => ?_) fun h41 => ?_
    ·try norm_cast at h41
     refine qr<|pr 2 rfl<|fA fo38_3 rfl<|sT sc4 hr rfl fun w hr hs => ?_
     have hL := hL.gr hs au
     have hN := hN.gr hs au
     have hr : RK g s p2 b2 true ps _ := hr
     have hG := hG.trans hs
     refine nsqr<|pr 1 rfl<|eN en28 rfl (fail_calls g s p2 b2 true ps _ hr) fun v w hv => ?_
     obtain ⟨hO, hr, hv⟩ := hv
     have hO := own_mono hO hG.size
     have hG := hG.trans hv
     have hL := hL.gr hv au
     have hN := hN.gr hv au
     have hr : RK g s p2 true true ps _ := hr
     refine pr 1 rfl<|nsth<|rC<|rH<|rC<|rH ?_
     try simp only [Decidable.not_not] at h36
     try simp only [Decidable.not_not] at h40
     try simp only [Decidable.not_not] at h41
     have hEnd : Sp.ends left = true := by
      first | (exfalso; omega) | (simp [Sp.ends, h36, h40, h41]; done)
     refine rA rfl rfl ?_
     rw [hE, Sp.cgTail, if_pos hEnd]
     exact ⟨hO, hr, hG⟩
    try norm_cast at h41
    refine rK ?_
    try simp only [Decidable.not_not] at h36
    try simp only [Decidable.not_not] at h40
    try simp only [Decidable.not_not] at h41
    have hEnd : Sp.ends left = false := by
     first | (exfalso; omega) | (simp [Sp.ends, h36, h40, h41]; done)
    exact cT [(0, pP g), (1, .bool pe), (5, .slice (some ⟨bl, 0, none⟩) left.cnt cl), (7, .int .i64 (op : Int))] rfl ⟨rfl, hL, hr, hG, hEnd⟩
   try norm_cast at h40
   refine pr 6 rfl<|ns<|cF rfl<|rK ?_
   try simp only [Decidable.not_not] at h36
   try simp only [Decidable.not_not] at h40
   have hEnd : Sp.ends left = false := by
    first | (exfalso; omega) | (simp [Sp.ends, h36, h40]; done)
   exact cT [(0, pP g), (1, .bool pe), (5, .slice (some ⟨bl, 0, none⟩) left.cnt cl), (7, .int .i64 (op : Int))] rfl ⟨rfl, hL, hr, hG, hEnd⟩
  rintro l w ⟨rfl, hL, hr, hG, hEnd⟩
  have hN : NodesAt w bl (0 + 0 * 8) left.enc := NodesAt.of_own hL
  have hr : RK g s p2 b2 u2 ps _ := hr
  refine rR<|pr 1 rfl<|qq (R.build (vs := SelN.cells ⟨22, op, [], [], 0, 0, 0⟩ 0) (ps := [(0, .int .i64 22), (1, .int .i64 (op : Int))]) (fun a ha => by simp [evalC, ha.ev (x := .tmp 94) rfl]) kR) rfl<|pr 3 rfl<|eN en25 rfl (compound_calls g s p2 b2 u2 ps _ hr hb om grp hgle (hgrp.mono om) pe) fun v w hv => ?_
  obtain ⟨t42, p42, b42, u42, e42, hp42a, hp42b, hb42, hu42⟩ := Sp.Le.split (f := Sp.compound grp pe ⟨s, p2, b2, u2, ps⟩) (Sp.compound_le grp hgle pe ⟨s, p2, b2, u2, ps⟩ okk).1
  have hc42 : t42.cnt ≤ 2 + 4 * (p42 - (p2)) := by have := (Sp.compound_le grp hgle pe ⟨s, p2, b2, u2, ps⟩ okk).2; rw [e42] at this; exact this
  have hk42 : t42.top.kind ≠ 22 := by have := Sp.compound_kind grp pe ⟨s, p2, b2, u2, ps⟩; rw [e42] at this; exact this
  obtain ⟨hY, hro, hv⟩ := hv
  rw [e42] at hY hro
  have hY : World.ownsRow w _ 53 8 v t42.cnt t42.enc := hY
  obtain ⟨bk, ck, rfl⟩ := own_slice hY (ST.cnt_pos _)
  have hY : OwnT w0.heap.size w (.slice (some ⟨bk, 0, none⟩) t42.cnt ck) t42 := own_mono hY hG.size
  clear hr
  have hr : RD g ⟨s, p42, b42, u42, ps⟩ w := hro
  clear hro
  have hG := hG.trans hv
  have hL := hL.gr hv au
  have hN := hN.gr hv au
  have hr : RK g s p42 b42 u42 ps _ := hr
  refine W.buildSlice (ps := [(0, .slice (some ⟨bl, 0, none⟩) left.cnt cl), (1, .slice (some ⟨bk, 0, none⟩) t42.cnt ck)]) (fun a ha => by simp [ha.ev (x := .tmp 96) rfl, ha.ev (x := .tmp 99) rfl]) (row28b _ _ _ _ _ _) rfl fun w kb hkz hB hv => ?_
  have hr := hr.grN hv
  have hL := hL.grN hv
  have hN := hN.grN hv
  have hY := hY.grN hv
  have hG := hG.trans (hv.no _)
  refine eN en19 rfl (SelMade2 ⟨22, op, [], [], 0, 0, 0⟩ left t42 _ _ kb 2 _ hB (own_mono hL (Nat.zero_le _)) (own_mono hY (Nat.zero_le _)) om) fun v w hv => ?_
  obtain ⟨hZ, hv⟩ := hv
  obtain ⟨bz, cz, rfl⟩ := own_slice hZ (ST.cnt_pos _)
  have hZ : OwnT w0.heap.size w (.slice (some ⟨bz, 0, none⟩) (ST.node ⟨22, op, [], [], 0, 0, 0⟩ [left, t42]).cnt cz) (ST.node ⟨22, op, [], [], 0, 0, 0⟩ [left, t42]) := own_mono hZ hG.size
  have hr := hr.grN hv
  have hG := hG.trans (hv.no _)
  have hL := hL.gr hv au
  have hN := hN.gr hv au
  have hY := hY.gr hv au
  refine pr 1 rfl<|nB ?_
  rw [Sp.cgTail, if_neg (by rw [hEnd]; decide), e42] at hE
  have hcz : (ST.node ⟨22, op, [], [], 0, 0, 0⟩ [left, t42]).cnt = 1 + (left.cnt + (t42.cnt + 0)) := by rw [ST.cnt, ST.cntL, ST.cntL, ST.cntL]
  exact cT [(0, pP g), (1, .bool pe), (5, .slice (some ⟨bz, 0, none⟩) (ST.node ⟨22, op, [], [], 0, 0, 0⟩ [left, t42]).cnt cz)] rfl ⟨m, om, bz, cz, _, _, _, _, rfl, hZ, OkLast.comb _ _ t42 rfl rfl (OkLast.of_kind aM), hr, hG, hE, Or.inr om, om, om, om⟩
 try simp only [Bool.not_eq_true', Bool.not_eq_false'] at h3
 subst h3
 have hr : RK g s p true u ps _ := hr
 refine rE<|rX<|rX<|rY<|sqr<|pr 2 rfl<|nst<|rA rfl rfl ?_
 rw [hE, Sp.cg_bad rfl]
 exact ⟨hL, hr, hG⟩
theorem OwnK.one {base : Nat} {w : World} {v : Value} {t : ST} (h : OwnT base w v t) : OwnK base w v [t] := own_l1 h
theorem OwnK.snoc {base : Nat} {w : World} {v : Value} {ts : List ST} {t : ST} (h : w.ownsRow base 53 8 v (ST.cntL ts + t.cnt) (ST.encL ts ++ t.enc)) : OwnK base w v (ts ++ [t]) := by
 unfold OwnK
 rw [ST.cntL_append, ST.encL_append]
 simpa [ST.cntL, ST.encL] using h
theorem SelMadeP (X : SelN) (ts : List ST) (kv : Value) (kb cap : Nat) (w0 : World) (hc : w0.cell? ⟨kb, 0, none⟩ = some kv) (hk : w0.ownsRow 0 53 8 kv (ST.cntL ts) (ST.encL ts)) (hs : ST.cntL ts ≤ 90000) : CR PR 19 [.agg (X.cells 0).toArray, .slice (some ⟨kb, 0, none⟩) 1 cap] w0 fun v w' => w'.ownsRow w0.heap.size 53 8 v (ST.node X ts).cnt (ST.node X ts).enc ∧ Gr w0 w' none :=
 (SelMade_calls X 0 (some ⟨kb, 0, none⟩) cap [(kv, ST.cntL ts, ST.encL ts)] w0 (fun j p h => by
  cases j with
  | zero => simp at h; subst h; exact ⟨kb, rfl, hc⟩
  | succ j => simp at h) (fun p h => by simp at h; subst h; exact hk) (fun p h => by simp at h; subst h; exact ST.encL_one ts) (by simp) (by simp [sumN]; omega)).mono fun v w' h => ⟨by simpa [ST.cnt, ST.enc, ST.cntL, ST.encL, sumN, sumX] using h.1, h.2⟩
namespace Sp
section
variable {grp : Rd → ST × Rd} {pe : Bool} {r r1 r2 : Rd} {l : List ST} {y t : ST} {m : Nat}
def gTail (x : List ST × Rd) : ST × Rd := (ST.node (SelN.mk1 23) x.1, x.2)
theorem groupW_1 (e : complex grp pe r = (t, r1)) : groupW grp pe r = gTail (groupGo grp pe (r1.s.length + 2) [t] r1) := by
 unfold groupW; simp only [e]; rfl
theorem gg_bad (h : r.bad = true) : groupGo grp pe m l r = (l, r) := by
 cases m with
 | zero => rfl
 | succ m => rw [groupGo, if_pos h]
theorem gg_no (h : r.bad = false) (e : taken r [44] = (false, r1)) : groupGo grp pe (m + 1) l r = (l, r1) := by
 rw [groupGo, if_neg (by rw [h]; decide)]; simp only [e, Bool.false_eq_true, if_false]
theorem gg_yes (h : r.bad = false) (e : taken r [44] = (true, r1)) (e2 : complex grp pe r1 = (y, r2)) : groupGo grp pe (m + 1) l r = groupGo grp pe m (l ++ [y]) r2 := by
 rw [groupGo, if_neg (by rw [h]; decide)]; simp only [e, if_true, e2]
theorem taken_pos {t : List UInt8} (e : taken r t = (true, r1)) : r1.pos = r.pos + t.length := by
 unfold taken at e
 split at e
 ·cases e; rfl
 cases e
end
end Sp
theorem groupW_calls (g : Nat) (s : List UInt8) (p0 : Nat) (b0 u0 ps : Bool) (w0 : World) (hr : RD g ⟨s, p0, b0, u0, ps⟩ w0) (hb : s.length ≤ 1000) (hp : p0 ≤ s.length + 1) (grp : Rd → ST × Rd) (hgle : ∀ r, Sp.Ok r → Sp.Step 3 r (grp r)) (hgrp : GrpOk g s ps grp (p0 + 1)) (pe : Bool) :
 CR PR 10 [pP g, .bool true, .bool pe] w0 fun v w' => Made g w0 (Sp.groupW grp pe ⟨s, p0, b0, u0, ps⟩) v w' := by
 have hgl0 := hr.lt
 have hr : RK g s p0 b0 u0 ps _ := hr
 have hG : Gr w0 w0 (some g) := Gr.refl _ _
 refine CR.of (n := 32) [(0, pP g), (1, .bool true), (2, .bool pe)] Tryz.func10 rfl Tryz.ntmps10 rfl ⟨rfl, rfl, rfl, trivial⟩<|qr<|pr 1 rfl<|nsqr<|pr 2 rfl<|eN en17 rfl (complex_calls g s p0 b0 u0 ps _ hr hb om grp hgle (hgrp.mono om) pe) fun v w hv => ?_
 obtain ⟨t1, p1, b1, u1, e1, hp1a, hp1b, hb1, hu1⟩ := Sp.Le.split (f := Sp.complex grp pe ⟨s, p0, b0, u0, ps⟩) (Sp.complex_le grp hgle pe ⟨s, p0, b0, u0, ps⟩ okk).1
 have hc1 : t1.cnt ≤ 2 + 4 * (p1 - (p0)) := by have := (Sp.complex_le grp hgle pe ⟨s, p0, b0, u0, ps⟩ okk).2; rw [e1] at this; exact this
 obtain ⟨hY, hro, hv⟩ := hv
 rw [e1] at hY hro
 have hY : OwnT w0.heap.size w v t1 := own_mono hY hG.size
 clear hr
 have hr : RD g ⟨s, p1, b1, u1, ps⟩ w := hro
 clear hro
 have hG := hG.trans hv
 have hr : RK g s p1 b1 u1 ps _ := hr
 refine pr 1 rfl<|nsq<|rO ?_
 have hK := OwnK.one hY
 refine sB [(0, pP g), (1, .bool true), (2, .bool pe), (7, v)] rfl<|C.loop (fun m l w' => ∃ (lv : Value) (ts : List ST) (p : Nat) (b u : Bool), l = [(0, pP g), (1, .bool true), (2, .bool pe), (7, lv)] ∧ OwnK w0.heap.size w' lv ts ∧ RD g ⟨s, p, b, u, ps⟩ w' ∧ Gr w0 w' (some g) ∧ Sp.groupW grp pe ⟨s, p0, b0, u0, ps⟩ = Sp.gTail (Sp.groupGo grp pe m ts ⟨s, p, b, u, ps⟩) ∧ (b = true ∨ s.length + 1 < p + m) ∧ p0 ≤ p ∧ p ≤ s.length + 1 ∧ ST.cntL ts ≤ 2 + 4 * (p - p0)) (s.length + 2) (⟨_, _, _, _, _, rfl, hK, hr, hG, Sp.groupW_1 e1, Or.inr om, om, om, by simp only [ST.cntL]; omega⟩) ?_
 rintro m l w ⟨lv, ts, p, b, u, rfl, hK, hr, hG, hE, hm, hp1, hp2, hct⟩
 have hr : RK g s p b u ps _ := hr
 refine qqr<|pr 2 rfl<|fA fo38_2 rfl<|W.splitB (R.load sc4 rfl hr rfl) rfl rfl rfl (fun h2 => ?_) (fun h2 => ?_)
 ·subst h2
  have hr : RK g s p true u ps _ := hr
  refine pr 8 rfl<|ns<|cF rfl<|rE<|rX<|rX<|rY<|sqr<|qq (R.build (vs := (SelN.mk1 23).cells 0) (ps := [(0, .int .i64 23)]) (fun a ha => by simp [evalC]) kR) rfl<|pr 1 rfl<|W.buildSlice (ps := [(0, lv)]) (fun a ha => by simp [ha.ev (x := .tmp 29) rfl]) (row28 _ (own_oneCell hK)) rfl fun w kb hkz hB hv => ?_
  have hr := hr.grN hv
  have hK := hK.grN hv
  have hG := hG.trans (hv.no _)
  refine eN en19 rfl (SelMadeP (SelN.mk1 23) ts lv kb 1 _ (hB.cell rfl) (own_mono hK (Nat.zero_le _)) om) fun v w hv => ?_
  obtain ⟨hO, hv⟩ := hv
  have hO := own_mono hO hG.size
  have hr := hr.grN hv
  have hG := hG.trans (hv.no _)
  have hK := hK.gr hv au
  refine pr 1 rfl<|nst<|rA rfl rfl ?_
  rw [hE, Sp.gg_bad rfl]
  exact ⟨hO, hr, hG⟩
 subst h2
 have hr : RK g s p false u ps _ := hr
 refine pr 6 rfl<|gN rfl en18 rfl (taken_calls g ⟨s, p, false, u, ps⟩ _ hr hb sO [44] dC) fun v w hv => ?_
 obtain ⟨v3, p3, b3, u3, e3, hp3a, hp3b, hb3, hu3⟩ := Sp.Le.split (f := Sp.taken ⟨s, p, false, u, ps⟩ [44]) (Sp.taken_le ⟨s, p, false, u, ps⟩ [44] okk)
 obtain ⟨hv1, hro, hv⟩ := hv
 rw [e3] at hv1 hro
 have hv1 : v = .bool v3 := hv1
 subst hv1
 clear hr
 have hr : RD g ⟨s, p3, b3, u3, ps⟩ w := hro
 clear hro
 have hG := hG.trans hv
 have hK := hK.gr hv au
 have hr : RK g s p3 b3 u3 ps _ := hr
 refine pr 1 rfl<|ns<|cC rfl (fun h4 => ?_) (fun h4 => ?_)
 ·try simp only [Bool.not_eq_true', Bool.not_eq_false'] at h4
  subst h4
  have hr : RK g s p3 b3 u3 ps _ := hr
  refine ks<|rO<|rR<|pr 3 rfl<|eN en17 rfl (complex_calls g s p3 b3 u3 ps _ hr hb om grp hgle (hgrp.mono om) pe) fun v w hv => ?_
  obtain ⟨t5, p5, b5, u5, e5, hp5a, hp5b, hb5, hu5⟩ := Sp.Le.split (f := Sp.complex grp pe ⟨s, p3, b3, u3, ps⟩) (Sp.complex_le grp hgle pe ⟨s, p3, b3, u3, ps⟩ okk).1
  have hc5 : t5.cnt ≤ 2 + 4 * (p5 - (p3)) := by have := (Sp.complex_le grp hgle pe ⟨s, p3, b3, u3, ps⟩ okk).2; rw [e5] at this; exact this
  obtain ⟨hY, hro, hv⟩ := hv
  rw [e5] at hY hro
  have hY : OwnT w0.heap.size w v t5 := own_mono hY hG.size
  clear hr
  have hr : RD g ⟨s, p5, b5, u5, ps⟩ w := hro
  clear hro
  have hG := hG.trans hv
  have hK := hK.gr hv au
  have hr : RK g s p5 b5 u5 ps _ := hr
  refine W.appendRow el22 rfl hK rfl (own_mono hY (Nat.zero_le _)) (ST.enc_one _) (by simp only [maxLen]; omega) om hG.size rfl fun lv2 w hK2 hv => ?_
  have hr := hr.gr hv (own_ne hK hgl0)
  have hG := Gr.own hG hv hK
  clear hY
  refine pr 1 rfl<|nB ?_
  have hm : s.length + 1 < p + m := hm.resolve_left dC
  obtain ⟨m, rfl⟩ := sU m
  have htp := Sp.taken_pos e3
  simp only [List.length_cons, List.length_nil] at htp
  rw [Sp.gg_yes rfl e3 e5] at hE
  exact cT [(0, pP g), (1, .bool true), (2, .bool pe), (7, lv2)] rfl ⟨m, om, lv2, ts ++ [t5], _, _, _, rfl, OwnK.snoc hK2, hr, hG, hE, Or.inr om, om, om, by rw [ST.cntL_append]; simp only [ST.cntL]; omega⟩
 try simp only [Bool.not_eq_true', Bool.not_eq_false'] at h4
 subst h4
 have hr : RK g s p3 b3 u3 ps _ := hr
 refine rE<|rX<|rX<|rY<|sqr<|qq (R.build (vs := (SelN.mk1 23).cells 0) (ps := [(0, .int .i64 23)]) (fun a ha => by simp [evalC]) kR) rfl<|pr 1 rfl<|W.buildSlice (ps := [(0, lv)]) (fun a ha => by simp [ha.ev (x := .tmp 29) rfl]) (row28 _ (own_oneCell hK)) rfl fun w kb hkz hB hv => ?_
 have hr := hr.grN hv
 have hK := hK.grN hv
 have hG := hG.trans (hv.no _)
 refine eN en19 rfl (SelMadeP (SelN.mk1 23) ts lv kb 1 _ (hB.cell rfl) (own_mono hK (Nat.zero_le _)) om) fun v w hv => ?_
 obtain ⟨hO, hv⟩ := hv
 have hO := own_mono hO hG.size
 have hr := hr.grN hv
 have hG := hG.trans (hv.no _)
 have hK := hK.gr hv au
 refine pr 1 rfl<|nst ?_
 have hm : s.length + 1 < p + m := hm.resolve_left dC
 obtain ⟨m, rfl⟩ := sU m
 refine rA rfl rfl ?_
 rw [hE, Sp.gg_no rfl e3]
 exact ⟨hO, hr, hG⟩
theorem group_ok (g : Nat) (s : List UInt8) (ps : Bool) (hb : s.length ≤ 1000) : ∀ k lo, s.length + 1 < lo + k → GrpOk g s ps (Sp.group k false) lo
 | 0, lo, h => fun p b u w h1 h2 => absurd h1 om
 | k + 1, lo, h => fun p b u w h1 h2 hr => groupW_calls g s p b u ps w hr hb h2 (Sp.group k false) (fun r hr => Sp.group_le k false r hr) (group_ok g s ps hb k (p + 1) om) false
theorem group_calls (g : Nat) (s : List UInt8) (ps : Bool) (w0 : World) (hr : RD g ⟨s, 0, false, false, ps⟩ w0) (hb : s.length ≤ 1000) (pe : Bool) : CR PR 10 [pP g, .bool true, .bool pe] w0 (Made g w0 (Sp.group (s.length + 2) pe ⟨s, 0, false, false, ps⟩)) :=
 groupW_calls g s 0 false false ps w0 hr hb om (Sp.group (s.length + 1) false) (fun r hr => Sp.group_le _ false r hr) (group_ok g s ps hb (s.length + 1) 1 om) pe
section
variable {s : List UInt8} {pe : Bool} {t : ST} {r : Rd}
theorem Sp.parsed_1 (h : Sp.readable s = false) : Sp.parsed s pe = (Sp.failed, false, false) := by
 rw [Sp.parsed, if_pos h]
theorem Sp.parsed_2 (h : Sp.readable s = true) (e : Sp.group (s.length + 2) pe ⟨s, 0, false, false, pe⟩ = (t, r)) (hb : (r.bad || decide (r.pos < s.length)) = true) : Sp.parsed s pe = (Sp.failed, false, !r.uns) := by
 rw [Sp.parsed, if_neg (by rw [h]; decide)]; simp only [e, hb, if_true]
theorem Sp.parsed_3 (h : Sp.readable s = true) (e : Sp.group (s.length + 2) pe ⟨s, 0, false, false, pe⟩ = (t, r)) (hb : (r.bad || decide (r.pos < s.length)) = false) : Sp.parsed s pe = (t, true, !r.uns) := by
 rw [Sp.parsed, if_neg (by rw [h]; decide)]; simp only [e, hb, Bool.false_eq_true, if_false]
end
theorem Parsed_calls (s : List UInt8) (w0 : World) (hb : s.length ≤ 1000) :
 CR PR 4 [str s, .bool true, .bool true] w0 fun v w' => ∃ vl, v = .tuple #[vl, .bool (Sp.parsed s true).2.1, .bool (Sp.parsed s true).2.2] ∧ ((Sp.parsed s true).2.1 = true → OwnT w0.heap.size w' vl (Sp.parsed s true).1 ∧ (Sp.parsed s true).1.cnt ≤ 5000) ∧ Gr w0 w' none := by
 have hG : Gr w0 w0 none := Gr.refl _ _
 refine CR.of (n := 57) [(0, str s), (1, .bool true), (2, .bool true)] Tryz.func4 rfl Tryz.ntmps4 rfl ⟨rfl, rfl, rfl, trivial⟩<|qr<|pr 3 rfl<|nsq<|qr<|pr 1 rfl<|eN en9 rfl (readable_calls s _ om) fun v w hv => ?_
 obtain ⟨rfl, hv⟩ := hv
 have hG := hG.trans hv
 cases hb0 : Sp.readable s
 ·refine pr 1 rfl<|ns<|cV rfl<|qr<|pr 3 rfl<|nsth<|At.res3 rfl rfl rfl rfl ?_
  rw [Sp.parsed_1 aM]
  exact ⟨_, rfl, (fun h => by cases h), hG⟩
 refine pr 1 rfl<|ns<|cF rfl<|ksqr<|pr 2 rfl<|qq (R.build (vs := [str s, .int .i64 ((0 : Nat) : Int), .bool false, .bool false, .bool true]) (ps := [(0, str s), (4, .bool true)]) (fun a ha => by simp [ha.ev (x := .tmp 13) rfl, ha.ev (x := .tmp 14) rfl]) kR) rfl<|W.box (vs := [str s, .int .i64 ((0 : Nat) : Int), .bool false, .bool false, .bool true]) rfl rfl rfl fun w g hgb hr hv => ?_
 have hgz : w0.heap.size ≤ g := by have := hG.size; omega
 have hG := hG.trans hv
 have hRd : Sp.readable s = true := by assumption
 refine pr 1 rfl<|nsqr<|pr 3 rfl<|eN en10 rfl (group_calls g s true _ hr hb true) fun v w hv => ?_
 obtain ⟨hYo, hro, hv⟩ := hv
 obtain ⟨t, p, b, u, e1, hpa, hpb, -, -⟩ := Sp.Le.split (f := Sp.group (s.length + 2) true ⟨s, 0, false, false, true⟩) (Sp.group_le _ true ⟨s, 0, false, false, true⟩ (by simp only [Sp.Ok]; omega)).1
 have hct : t.cnt ≤ 3 + 4 * (p - 0) := by have := (Sp.group_le (s.length + 2) true ⟨s, 0, false, false, true⟩ (by simp only [Sp.Ok]; omega)).2; rw [e1] at this; exact this
 rw [e1] at hYo hro
 have hY : OwnT (g + 1) w v t := own_mono hYo hr.lt
 clear hYo
 clear hr
 have hr : RD g ⟨s, p, b, u, true⟩ w := hro
 clear hro
 have hG := hG.fresh hv hgz
 have hr : RK g s p b u true _ := hr
 refine pr 1 rfl<|nsq<|qr<|pr 2 rfl<|fA fo38_2 rfl<|W.splitB (R.load sc4 rfl hr rfl) rfl rfl rfl (fun h2 => ?_) (fun h2 => ?_)
 ·subst h2
  have hr : RK g s p true u true _ := hr
  refine pr 10 rfl<|ns<|cF rfl<|ksq<|qr<|pr 2 rfl<|fA fo38_2 rfl<|lD sc4 hr rfl rfl<|ns<|cV rfl<|rQ<|dR<|prq 2 rfl<|fQ fo38_3 rfl<|lQ sc4 hr rfl rfl<|prq 4 rfl<|Wq.nil fun w hw => ?_
  have hr := hr.grN hw
  have hY := hY.grN hw
  have hG := hG.trans hw
  refine rS<|rT<|rH<|At.res3 rfl rfl rfl rfl ?_
  rw [Sp.parsed_2 hRd e1 au]
  exact ⟨_, rfl, (fun h => by cases h), hG⟩
 subst h2
 have hr : RK g s p false u true _ := hr
 refine pr 4 rfl<|gg (R.fieldAddr fo38_1 rfl) rfl<|gg (R.load sc3 rfl hr rfl) rfl<|pr 1 rfl<|gg (R.lenS rfl u9) rfl<|gg (R.ltI rfl rfl) rfl<|pr 1 rfl<|ns<|cD rfl (fun h3 => ?_) fun h3 => ?_
 ·refine rR<|pr 2 rfl<|fA fo38_2 rfl<|sT sc4 hr rfl fun w hr hs => ?_
  have hY := hY.gr hs au
  have hr : RK g s p true u true _ := hr
  have hG := hG.fresh hs hgz
  refine nsq<|qr<|pr 2 rfl<|fA fo38_2 rfl<|lD sc4 hr rfl rfl<|ns<|cV rfl<|rQ<|dR<|prq 2 rfl<|fQ fo38_3 rfl<|lQ sc4 hr rfl rfl<|prq 4 rfl<|Wq.nil fun w hw => ?_
  have hr := hr.grN hw
  have hY := hY.grN hw
  have hG := hG.trans hw
  refine rS<|rT<|rH<|At.res3 rfl rfl rfl rfl ?_
  rw [Sp.parsed_2 hRd e1 au]
  exact ⟨_, rfl, (fun h => by cases h), hG⟩
 refine ksq<|qr<|pr 2 rfl<|fA fo38_2 rfl<|lD sc4 hr rfl rfl<|ns<|cF rfl<|ksq<|qr<|pr 2 rfl<|ns<|cF rfl<|ksq<|dR<|prq 3 rfl<|fQ fo38_3 rfl<|lQ sc4 hr rfl rfl<|prq 4 rfl<|Wq.nil fun w hw => ?_
 have hr := hr.grN hw
 have hY := hY.grN hw
 have hG := hG.trans hw
 refine rS<|rT<|At.res3 rfl rfl rfl rfl ?_
 rw [Sp.parsed_3 hRd e1 sM]
 exact ⟨_, rfl, fun _ => ⟨own_mono hY om, show t.cnt ≤ 5000 by omega⟩, hG⟩
namespace Eng
section
variable {P : Program} {n : Nat} {l : Fr} {w : World} {v : Value} {dst : Option Nat} {ty : TypeId} {pos : String} {af : Array Edge} {g : Option (Nat × Bool)} {x y z : Operand} {b k : Nat} {t : TypeId}
theorem R.sliceL {off len cap sz lo hi : Nat} {a1 b1 : Int} (hx : ev l x = some (.slice (some ⟨b, off, none⟩) len cap)) (hy : ev l y = some (.int .i64 a1)) (hz : ev l z = some (.int .i64 b1)) (ha1 : a1 = (lo : Int)) (hb1 : b1 = (hi : Int)) (h1 : lo < hi) (h2 : hi ≤ cap) (hs : slElem P t = some sz) :
 Runs P n l ⟨dst, .slice t x (some y) (some z) none, ty, pos, af, g⟩ w (.value (.slice (some ⟨b, off + lo * sz, none⟩) (hi - lo) (cap - lo))) w := fun a ha => by
 subst ha1 hb1
 unfold slElem at hs
 cases hu : P.underlying t with
 | none => simp [hu] at hs
 | some dd =>
  cases dd <;> simp only [hu] at hs <;> try (cases hs; done)
  rename_i e
  cases hie : P.info? e with
  | none => simp [hie] at hs
  | some ie =>
   simp only [hie, Option.map_some, Option.some.injEq] at hs
   have hne : ¬ cap = lo := by omega
   have hle : lo ≤ hi := by omega
   simp only [execOp, ha.ev hx, ha.ev hy, ha.ev hz, Option.map_some, Option.map_none]
   simp [Instr.sliceAt, Instr.slice, Instr.sliceBounds, Instr.sliceBound, asIntOf, run_underlying hu, h2, hle, hne, sizeOf, typeInfo, hie, hs, addr_add]
theorem loadCells_at {vs : List Value} {off : Nat} (hc : ∀ j u, vs[j]? = some u → w.cell? ⟨b, off + j, none⟩ = some u) : ∀ (m k : Nat) (acc : Array Value), k + m ≤ vs.length → (loadCellsFrom ⟨b, off, none⟩ k m acc).run P w = .ok (acc ++ ((vs.drop k).take m).toArray) w
 | 0, k, acc, _ => by simp [loadCellsFrom]
 | m + 1, k, acc, h => by
  have hk : k < vs.length := by omega
  have e1 : (vs.drop k).take (m + 1) = vs[k] :: (vs.drop (k + 1)).take m := by
   rw [List.drop_eq_getElem_cons hk]; rfl
  have hcc := hc k vs[k] (List.getElem?_eq_getElem hk)
  simp only [loadCellsFrom, Sem.run_bind, addr_add, run_load, hcc, Result.andThen_ok]
  rw [loadCells_at hc m (k + 1) _ om, e1]
  simp
theorem R.loadAggC {off : Nat} {vs : List Value} (hz : aggSize P t = some k) (hx : ev l x = some (.pointer (some ⟨b, off, none⟩))) (hc : ∀ j u, vs[j]? = some u → w.cell? ⟨b, off + j, none⟩ = some u) (hl : vs.length = k) :
 Runs P n l ⟨dst, .load t x, ty, pos, af, g⟩ w (.value (.agg vs.toArray)) w := fun a ha => by
 obtain ⟨ha1, ha2⟩ := aggSize_agg hz w
 have := loadCells_at (P := P) hc k 0 #[] om
 have e : (vs.drop 0).take k = vs := by simp [← hl]
 simp only [execOp, ha.ev hx]
 rw [e] at this
 simp [Instr.loadAt, Instr.sureAddr, loadVar, ha1, ha2, loadCells, this]
end
theorem ar30 : arElem PR 30 = some (3, 1) := by kernel_rfl
theorem ag30 : aggSize PR 30 = some 3 := by kernel_rfl
end Eng
structure Tr where
 a : Nat
 b : Nat
 c : Nat
def Tr.cells (t : Tr) : List Value := [.int .i64 (t.a : Int), .int .i64 (t.b : Int), .int .i64 (t.c : Int)]
theorem Tr.cells_one (t : Tr) : ∀ v ∈ t.cells, v.oneCell' = true := by
 intro v hv
 simp only [Tr.cells, List.mem_cons, List.not_mem_nil, or_false] at hv
 rcases hv with rfl | rfl | rfl <;> rfl
def Tr.add (x y : Tr) : Tr := ⟨x.a + y.a, x.b + y.b, x.c + y.c⟩
def Tr.less (x y : Tr) : Bool := if ¬ x.a = y.a then decide (x.a < y.a) else if ¬ x.b = y.b then decide (x.b < y.b) else if ¬ x.c = y.c then decide (x.c < y.c) else false
def Tr.zero : Tr := ⟨0, 0, 0⟩
def Tr.mix (j : Nat) (x y : Tr) : Tr := ⟨if 0 < j then x.a + y.a else x.a, if 1 < j then x.b + y.b else x.b, if 2 < j then x.c + y.c else x.c⟩
theorem z30 : zeroCellsOf PR 30 = some Tr.zero.cells := by kernel_rfl
namespace Sp
mutual
def specy : ST → Tr
 | .node x l => if x.kind = 1 then Tr.zero else if x.kind = 2 then ⟨0, 0, 1⟩ else if x.kind = 4 then ⟨1, 0, 0⟩
  else if x.kind = 21 ∨ x.kind = 22 then (if x.kind = 21 ∧ ¬ x.val = [] then (sumL Tr.zero l).add ⟨0, 0, 1⟩ else sumL Tr.zero l)
  else if x.kind = 18 ∨ x.kind = 19 ∨ x.kind = 20 ∨ x.kind = 23 then maxL Tr.zero l else ⟨0, 1, 0⟩
def sumL (acc : Tr) : List ST → Tr
 | [] => acc
 | t :: r => sumL (acc.add (specy t)) r
def maxL (acc : Tr) : List ST → Tr
 | [] => acc
 | t :: r => maxL (if acc.less (specy t) then specy t else acc) r
end
mutual
theorem specy_le : ∀ (t : ST), (specy t).a ≤ t.cnt ∧ (specy t).b ≤ t.cnt ∧ (specy t).c ≤ t.cnt
 | .node x l => by
  have h1 := sumL_le l Tr.zero
  have h2 := maxL_le l Tr.zero
  simp only [Tr.zero] at h1 h2
  rw [specy, ST.cnt]
  (repeat' split) <;> simp only [Tr.add, Tr.zero] <;> omega
theorem sumL_le : ∀ (l : List ST) (acc : Tr), (sumL acc l).a ≤ acc.a + ST.cntL l ∧ (sumL acc l).b ≤ acc.b + ST.cntL l ∧ (sumL acc l).c ≤ acc.c + ST.cntL l
 | [], acc => by rw [sumL, ST.cntL]; omega
 | t :: r, acc => by
  have h1 := specy_le t
  have h2 := sumL_le r (acc.add (specy t))
  rw [sumL, ST.cntL]
  simp only [Tr.add] at h2 ⊢
  omega
theorem maxL_le : ∀ (l : List ST) (acc : Tr), (maxL acc l).a ≤ acc.a + ST.cntL l ∧ (maxL acc l).b ≤ acc.b + ST.cntL l ∧ (maxL acc l).c ≤ acc.c + ST.cntL l
 | [], acc => by rw [maxL, ST.cntL]; omega
 | t :: r, acc => by
  have h1 := specy_le t
  have h2 := maxL_le r (if acc.less (specy t) then specy t else acc)
  rw [maxL, ST.cntL]
  by_cases hq : acc.less (specy t) = true
  ·rw [if_pos hq] at h2 ⊢; omega
  rw [if_neg hq] at h2 ⊢; omega
end
end Sp
def partsV (b off cap : Nat) : Nat → List ST → List Value
 | _, [] => []
 | k, t :: r => .slice (some ⟨b, off + k * 8, none⟩) t.cnt (cap - k) :: partsV b off cap (k + t.cnt) r
theorem partsV_length (b off cap : Nat) : ∀ (k : Nat) (l : List ST), (partsV b off cap k l).length = l.length
 | _, [] => rfl
 | k, t :: r => by rw [partsV, List.length_cons, List.length_cons, partsV_length]
theorem drop_cons {α : Type} {l : List α} {i : Nat} {x : α} {r : List α} (h : l.drop i = x :: r) : l[i]? = some x ∧ l.drop (i + 1) = r ∧ i < l.length := by
 have hl : i < l.length := by
  rcases Nat.lt_or_ge i l.length with h1 | h1
  ·exact h1
  rw [List.drop_eq_nil_of_le h1] at h; cases h
 rw [List.drop_eq_getElem_cons hl] at h
 injection h with h1 h2
 exact ⟨by rw [List.getElem?_eq_getElem hl, h1], h2, hl⟩
theorem own_any {w : World} {base : Nat} {e : TypeId} {size : Nat} {v : Value} {n : Nat} {xs : List Value} (h : w.ownsRow base e size v n xs) : ∃ a c, v = .slice a n c := by
 rcases h.2 with ⟨h1, h0⟩ | ⟨g, cap, cur, hv, _⟩
 ·subst h0; exact ⟨none, 0, h1⟩
 exact ⟨_, cap, hv⟩
theorem row28c (a1 : Option Addr) (n1 c1 : Nat) : rowOf PR 28 1 [(0, .slice a1 n1 c1)] = some (22, [.slice a1 n1 c1]) := by kernel_rfl
theorem Picks_calls (b off mx cap at0 : Nat) (T : ST) (w0 : World) (hN : NodesAt w0 b (off + at0 * 8) T.enc) (hm : at0 + T.cnt ≤ mx) (hb : mx ≤ 90000) :
 CR PR 13 [.slice (some ⟨b, off, none⟩) mx cap, .int .i64 (at0 : Int)] w0 fun v w' => w'.ownsRow w0.heap.size 3 1 v T.kids.length (places (at0 + 1) T.kids) ∧ Gr w0 w' none := by
 have hcp := ST.cnt_pos T
 have hG : Gr w0 w0 none := Gr.refl _ _
 refine CR.of (n := 30) [(0, .slice (some ⟨b, off, none⟩) mx cap), (1, .int .i64 (at0 : Int))] Tryz.func13 rfl Tryz.ntmps13 rfl ⟨rfl, rfl, trivial⟩<|qr<|pr 1 rfl<|nsqr<|pr 1 rfl<|nsq<|qr<|pr 1 rfl<|aK rfl rfl<|pr 1 rfl<|ns<|rO ?_
 have hbl : b < w0.heap.size := hN.blk
 refine sB [(0, .slice (some ⟨b, off, none⟩) mx cap), (1, .int .i64 (at0 : Int)), (5, .slice none 0 0), (6, .int .i64 ((at0 + 1 : Nat) : Int))] rfl<|C.loop (fun mu l w' => ∃ (k : Nat) (ov : Value) (dn : List Value) (r : List ST), l = [(0, .slice (some ⟨b, off, none⟩) mx cap), (1, .int .i64 (at0 : Int)), (5, ov), (6, .int .i64 (k : Int))] ∧ NodesAt w' b (off + at0 * 8) T.enc ∧ NodesAt w' b (off + k * 8) (ST.encL r) ∧ w'.ownsRow w0.heap.size 3 1 ov dn.length dn ∧ Gr w0 w' none ∧ dn ++ places k r = places (at0 + 1) T.kids ∧ k + ST.cntL r = at0 + T.cnt ∧ mu = r.length ∧ dn.length ≤ k) (T.kids.length) (⟨at0 + 1, _, [], T.kids, rfl, hN, hN.kids.cast om, World.ownsRow_nil _ _ _ _, hG, rfl, by rw [ST.cnt_eq T]; omega, rfl, by simp⟩) ?_
 rintro m l w ⟨k, ov, dn, r, rfl, hN, hR, hO, hG, hP, hk, hmu, hdn⟩
 refine qqr<|pr 4 rfl<|qq (R.idxA rfl rfl _ rfl om sl22) rfl<|fA fo53_7 rfl<|qq (R.loadC sc3 rfl hN.size) rfl<|qq (R.addN rfl rfl om) rfl<|qq (R.ltI rfl rfl) rfl<|ns<|cD rfl (fun h1 => ?_) fun h1 => ?_
 ·obtain ⟨t, r, rfl⟩ : ∃ t r2, r = t :: r2 := by
   cases r with
   | nil => simp only [ST.cntL] at hk; omega
   | cons t r2 => exact ⟨t, r2, rfl⟩
  have hK := hR.head
  have hkt : k + t.cnt ≤ at0 + T.cnt := by rw [ST.cntL] at hk; omega
  refine ksq<|rO<|rR<|pr 2 rfl<|W.buildSlice (ps := [(0, .int .i64 (k : Int))]) (fun a ha => by simp [ha.ev (x := .tmp 26) rfl]) (row54 _) rfl fun w kb hkz hB hv => ?_
  have hN := hN.grN hv
  have hR := hR.grN hv
  have hK := hK.grN hv
  have hO := own_grN hO hv
  have hG := hG.trans hv
  refine W.append el54 rfl hO (news := [.int .i64 (k : Int)]) rfl rfl (fun j u hj => ?_) (fun u hu => by simp at hu; subst hu; rfl) (by simp only [maxLen]; omega) om hG.size rfl fun ov2 w hO2 hv => ?_
  ·cases j with
   | zero => simp at hj; subst hj; exact hB.cell rfl
   | succ j => simp at hj
  have hbb := own_ne hO (g := b) (Nat.lt_of_lt_of_le hbl (Nat.le_refl _))
  have hN := hN.gr hv hbb
  have hR := hR.gr hv hbb
  have hK := hK.gr hv hbb
  have hG := Gr.own hG hv hO
  refine pr 1 rfl<|nbs<|rR<|pr 3 rfl<|qq (R.idxA rfl rfl _ rfl om sl22) rfl<|fA fo53_7 rfl<|qq (R.loadC sc3 rfl hK.size) rfl<|qq (R.addN rfl rfl om) rfl<|pr 1 rfl<|rN ?_
  exact cT [(0, .slice (some ⟨b, off, none⟩) mx cap), (1, .int .i64 (at0 : Int)), (5, ov2), (6, .int .i64 ((k + t.cnt : Nat) : Int))] rfl ⟨r.length, by simp only [List.length_cons] at hmu; omega, k + t.cnt, ov2, dn ++ [.int .i64 (k : Int)], r, rfl, hN, hR.tail.cast om, by simpa using hO2, hG, by rw [← hP, places]; simp, by rw [ST.cntL] at hk; omega, rfl, by rw [List.length_append, List.length_cons, List.length_nil]; have := ST.cnt_pos t; omega⟩
 refine rE<|rX<|rX<|rY<|sqr<|pr 2 rfl<|nst ?_
 have hr0 : r = [] := by
  cases r with
  | nil => rfl
  | cons t r2 => exfalso; rw [ST.cntL] at hk; have := ST.cnt_pos t; omega
 subst hr0
 refine rA rfl rfl ⟨?_, hG⟩
 rw [places, List.append_nil] at hP
 rw [← hP, ← places_length (at0 + 1), ← hP]; exact hO
theorem Part_calls (b off mx cap at0 : Nat) (T : ST) (w0 : World) (hN : NodesAt w0 b (off + at0 * 8) T.enc) (hm : at0 + T.cnt ≤ mx) (hb : mx ≤ 90000) (hcap : mx ≤ cap) :
 CR PR 14 [.slice (some ⟨b, off, none⟩) mx cap, .int .i64 (at0 : Int)] w0 fun v w' => v = .slice (some ⟨b, off + at0 * 8, none⟩) T.cnt (cap - at0) ∧ Gr w0 w' none := by
 have hcp := ST.cnt_pos T
 have hG : Gr w0 w0 none := Gr.refl _ _
 refine CR.of (n := 15) [(0, .slice (some ⟨b, off, none⟩) mx cap), (1, .int .i64 (at0 : Int))] Tryz.func14 rfl Tryz.ntmps14 rfl ⟨rfl, rfl, trivial⟩<|qr<|pr 1 rfl<|nsqr<|pr 5 rfl<|qq (R.idxA rfl rfl _ rfl om sl22) rfl<|fA fo53_7 rfl<|qq (R.loadC sc3 rfl hN.size) rfl<|qq (R.addN rfl rfl om) rfl<|qq (R.sliceL rfl rfl rfl rfl rfl om om sl22) rfl<|pr 1 rfl<|nst<|rA rfl rfl ⟨by rw [Nat.add_sub_cancel_left], hG⟩
theorem Selectors9_calls (b off mx cap : Nat) (T : ST) (w0 : World) (hN : NodesAt w0 b (off + 0 * 8) T.enc) (hm : T.cnt ≤ mx) (hb : mx ≤ 90000) (hcap : mx ≤ cap) (hT : T.top.kind = 23) :
 CR PR 6 [.slice (some ⟨b, off, none⟩) mx cap] w0 fun v w' => w'.ownsRow w0.heap.size 22 1 v T.kids.length (partsV b off cap 1 T.kids) ∧ Gr w0 w' none := by
 have hcp := ST.cnt_pos T
 have hN0 := hN
 have hG : Gr w0 w0 none := Gr.refl _ _
 refine CR.of (n := 36) [(0, .slice (some ⟨b, off, none⟩) mx cap)] Tryz.func6 rfl Tryz.ntmps6 rfl ⟨rfl, trivial⟩<|qr<|pr 1 rfl<|nsq<|qr<|pr 1 rfl<|qq (R.lenL rfl slq22) rfl<|W.split (R.eqI rfl rfl) rfl rfl rfl (fun h1 => ?_) (fun h1 => ?_)
 ·exfalso; omega
 refine pr 2 rfl<|gg (R.idxA rfl rfl 0 rfl om sl22) rfl<|gg (R.fieldAddr fo53_0 rfl) rfl<|gg (R.loadC sc3 rfl hN.kind) rfl<|W.gsplit rfl (R.neI rfl rfl) rfl rfl rfl (fun h2 => ?_) (fun h2 => ?_)
 ·exfalso; omega
 refine pr 1 rfl<|ns<|cF rfl<|ksqr<|pr 1 rfl<|nsqr<|pr 1 rfl<|eN en13 rfl (Picks_calls b off mx cap 0 T _ hN om hb) fun v w hv => ?_
 obtain ⟨hPl, hv⟩ := hv
 have hG := hG.trans hv
 obtain ⟨pa, pc, rfl⟩ := own_any hPl
 have hN := hN.gr hv au
 refine pr 1 rfl<|nsq<|qr<|pr 1 rfl<|qq (R.lenL rfl slq54) rfl<|pr 1 rfl<|ns<|rO ?_
 have hbl : b < w0.heap.size := hN0.blk
 refine sB [(0, .slice (some ⟨b, off, none⟩) mx cap), (3, .slice none 0 0), (4, .slice pa T.kids.length pc), (21, .int .i64 (T.kids.length : Int)), (22, .int .i64 ((0 : Nat) : Int))] rfl<|C.loop (fun mu l w' => ∃ (i k : Nat) (ov : Value) (dn : List Value) (r : List ST), l = [(0, .slice (some ⟨b, off, none⟩) mx cap), (3, ov), (4, (.slice pa T.kids.length pc)), (21, .int .i64 (T.kids.length : Int)), (22, .int .i64 (i : Int))] ∧ NodesAt w' b (off + 0 * 8) T.enc ∧ w'.ownsRow 0 3 1 (.slice pa T.kids.length pc) T.kids.length (places 1 T.kids) ∧ NodesAt w' b (off + k * 8) (ST.encL r) ∧ w'.ownsRow w0.heap.size 22 1 ov dn.length dn ∧ Gr w0 w' none ∧ dn ++ partsV b off cap k r = partsV b off cap 1 T.kids ∧ k + ST.cntL r = T.cnt ∧ mu = r.length ∧ dn.length = i ∧ i + r.length = T.kids.length ∧ (places 1 T.kids).drop i = places k r) (T.kids.length) (⟨0, 1, _, [], T.kids, rfl, hN, own_mono hPl (Nat.zero_le _), hN.kids.cast om, World.ownsRow_nil _ _ _ _, hG, rfl, by rw [ST.cnt_eq T], rfl, rfl, om, rfl⟩) ?_
 rintro m l w ⟨i, k, ov, dn, r, rfl, hN, hPl, hR, hO, hG, hP, hk, hmu, hdn, hir, hdp⟩
 refine qr<|qq (R.ltI rfl rfl) rfl<|nsq<|cD rfl (fun h3 => ?_) fun h3 => ?_
 ·obtain ⟨t, r, rfl⟩ : ∃ t r2, r = t :: r2 := by
   cases r with
   | nil => simp only [List.length_nil] at hir; omega
   | cons t r2 => exact ⟨t, r2, rfl⟩
  have hK := hR.head
  have hkt : k + t.cnt ≤ T.cnt := by rw [ST.cntL] at hk; omega
  rw [places] at hdp
  have hdp := drop_cons hdp
  obtain ⟨kb0, kc0, hq0⟩ := own_slice hPl om
  injection hq0 with hq0 hq1 hq2
  subst hq0 hq2
  have hcell := NodesAt.of_own hPl _ _ hdp.1
  rw [Nat.zero_add] at hcell
  have hkl := ST.cntL_len T.kids
  have hct := ST.cnt_eq T
  refine ksq<|rO<|qr<|pr 2 rfl<|nsr<|pr 4 rfl<|qq (R.idxB rfl rfl i rfl om sl54) rfl<|qq (R.loadC sc3 rfl hcell) rfl<|eN en14 rfl (Part_calls b off mx cap k t _ hK om hb hcap) fun v w hv => ?_
  obtain ⟨rfl, hv⟩ := hv
  have hG := hG.trans hv
  have hR := hR.grN hv
  have hK := hK.grN hv
  have hO := own_grN hO hv
  have hPl := own_grN hPl hv
  have hN := hN.gr hv au
  refine W.buildSlice (ps := [(0, .slice (some ⟨b, off + k * 8, none⟩) t.cnt (cap - k))]) (fun a ha => by simp [ha.ev (x := .tmp 31) rfl]) (row28c _ _ _) rfl fun w kb hkz hB hv => ?_
  have hN := hN.grN hv
  have hR := hR.grN hv
  have hK := hK.grN hv
  have hO := own_grN hO hv
  have hPl := own_grN hPl hv
  have hG := hG.trans hv
  refine W.append el28 rfl hO (news := [.slice (some ⟨b, off + k * 8, none⟩) t.cnt (cap - k)]) rfl rfl (fun j u hj => ?_) (fun u hu => by simp at hu; subst hu; rfl) (by simp only [maxLen]; omega) om hG.size rfl fun ov2 w hO2 hv => ?_
  ·cases j with
   | zero => simp at hj; subst hj; exact hB.cell rfl
   | succ j => simp at hj
  have hbb := own_ne hO (g := b) (Nat.lt_of_lt_of_le hbl (Nat.le_refl _))
  have hN := hN.gr hv hbb
  have hR := hR.gr hv hbb
  have hK := hK.gr hv hbb
  have hPl := own_kept hPl hv (own_apart hO hPl dC)
  have hG := Gr.own hG hv hO
  refine pr 1 rfl<|nbs<|rR<|aK rfl rfl<|pr 1 rfl<|rN ?_
  exact cT [(0, .slice (some ⟨b, off, none⟩) mx cap), (3, ov2), (4, .slice (some ⟨kb0, 0, none⟩) T.kids.length pc), (21, .int .i64 (T.kids.length : Int)), (22, .int .i64 ((i + 1 : Nat) : Int))] rfl ⟨r.length, by simp only [List.length_cons] at hmu; omega, i + 1, k + t.cnt, ov2, dn ++ [.slice (some ⟨b, off + k * 8, none⟩) t.cnt (cap - k)], r, rfl, hN, hPl, hR.tail.cast om, by simpa using hO2, hG, by rw [← hP, partsV]; simp, by rw [ST.cntL] at hk; omega, rfl, by simp [hdn], by simp only [List.length_cons] at hir; omega, hdp.2.1⟩
 refine rE<|rX<|rX<|rY<|sqr<|pr 2 rfl<|nst ?_
 have hr0 : r = [] := by
  cases r with
  | nil => rfl
  | cons t r2 => exfalso; simp only [List.length_cons] at hir; omega
 subst hr0
 refine rA rfl rfl ⟨?_, hG⟩
 rw [partsV, List.append_nil] at hP
 rw [← hP, ← partsV_length b off cap 1, ← hP]; exact hO
end Go.Proofs.YtogfnbkccfkpoaaGreatDoor
