/- A part (12) of the proof of the row of laws.FnFromText: lemmas on ImI, ImJ, Mth, ImK, ImO. No condition but what each statement says. -/
import Derived.Test.YtogfnbkccfkpoaaGreatDoorU11
import Derived.Defers
set_option linter.unusedSimpArgs false
set_option linter.unusedVariables false
set_option maxRecDepth 100000
set_option maxHeartbeats 4000000
namespace Go.Proofs.YtogfnbkccfkpoaaGreatDoor
open Go Go.RowKit
open Eng
theorem mi87 : isIfc PR 87 = some false := by kernel_rfl
theorem mi91 : isIfc PR 91 = some false := by kernel_rfl
theorem mi95 : isIfc PR 95 = some false := by kernel_rfl
theorem mi99 : isIfc PR 99 = some false := by kernel_rfl
theorem mi105 : isIfc PR 105 = some false := by kernel_rfl
theorem mi81 : isIfc PR 81 = some false := by kernel_rfl
theorem row41 (t : TypeId) (u : Value) : rowOf PR 41 1 [(0, .iface t u)] = some (48, [.iface t u]) := by kernel_rfl
theorem b105 (pe : List UInt8) (a : Option Addr) (m c : Nat) : PR.built 105 [(0, .slice a m c), (1, str pe)] = some [.slice a m c, str pe].toArray := by kernel_rfl
theorem b81 (t t' : TypeId) (u u' : Value) (c : Nat) : PR.built 81 [(0, .iface t u), (1, .int .u8 (c : Int)), (2, .iface t' u')] = some [.iface t u, .int .u8 (c : Int), .iface t' u'].toArray := by kernel_rfl
theorem SLG.own {a b c : World} {r : Option Nat} {l : List IS} {vl : Value} (h : SLG a.heap.size b l vl) (g : Gr a b r) (k : Gr b c vl.ownBlock) : Gr a c r := by
 obtain ⟨vs, h1, -⟩ := h; exact g.own k h1
theorem SLG.ne {base p : Nat} {w : World} {l : List IS} {vl : Value} (h : SLG base w l vl) (hp : p < base) : some p ≠ vl.ownBlock := fun e => by have := (h.lt p e.symm).1; omega
theorem SLG.head {base : Nat} {w : World} {x : IS} {vl : Value} (h : SLG base w [x] vl) : ∃ b c v, vl = .slice (some ⟨b, 0, none⟩) 1 c ∧ w.cell? ⟨b, 0, none⟩ = some v ∧ Rep (base ≤ ·) w x v := by
 obtain ⟨vs, h1, h2⟩ := h
 have hl := RepL.length h2
 obtain ⟨v, hv, hr⟩ := h2.get 0 x rfl
 rcases h1.2 with ⟨-, h0⟩ | ⟨g, cap, cur, rfl, -⟩
 ·rw [hl] at h0; cases h0
 refine ⟨g, cap, v, by rw [hl]; rfl, h1.cells (g := g) rfl 0 v hv, Rep.mono (Gr.refl w none) (fun k _ _ => by simp) (fun k hk _ => hk.1) x v hr⟩
theorem seqEnd_one {x : IS} {pe : List UInt8} {i : Nat} (h : pe = []) : Im.seqEnd (some ([x], pe, i)) = some (x, i) := by
 subst h; rfl
theorem seqEnd_comp {l : List IS} {pe : List UInt8} {i : Nat} (h : ¬ (l.length = 1 ∧ pe = [])) : Im.seqEnd (some (l, pe, i)) = some (.comp l pe, i) := by
 unfold Im.seqEnd
 cases l with
 | nil => rfl
 | cons x r =>
  cases r with
  | nil =>
   simp only [List.length_cons, List.length_nil, true_and] at h
   simp only [h, if_false]
  | cons y r => rfl
def Im.selNext (s : List UInt8) (grp : Nat → Option (List IS × Nat)) (acc : Bool) (m : Nat) (x : IS) (c j : Nat) : Option (IS × Nat) :=
 match Im.seq s grp acc j with
 | none => none
 | some (y, j) => Im.selGo s grp acc m (.comb x c y) j
theorem GrpLe.of {s : List UInt8} {grp : Nat → Option (List IS × Nat)} {lo lo' : Nat} (h : Im.GrpW s grp lo) (hl : lo ≤ lo') : GrpLe s grp lo' := fun a l b h1 h2 h3 => ⟨(h a l b om h2 h3).1, (h a l b om h2 h3).2.1⟩
theorem GrpI.up {p : Nat} {s : List UInt8} {acc : Bool} {grp : Nat → Option (List IS × Nat)} {lo lo' : Nat} (h : GrpI p s acc grp lo) (hl : lo ≤ lo') : GrpI p s acc grp lo' := fun j d w h1 => h j d w om
theorem GrpW.up {s : List UInt8} {grp : Nat → Option (List IS × Nat)} {lo lo' : Nat} (h : Im.GrpW s grp lo) (hl : lo ≤ lo') : Im.GrpW s grp lo' := fun a l b h1 => h a l b om
theorem attrV_rep {F : Nat → Prop} {w : World} {s : List UInt8} {i j : Nat} {x : IS} (h : Im.attr s i = some (x, j)) : Rep F w x (.iface 99 x.attrV) := by
 have key : ∃ k v o b, x = .attr k v o b := by
  have hv : ∀ (key op : List UInt8) (a : Nat), Im.attrVal s key op a = some (x, j) → ∃ k v o b, x = .attr k v o b := by
   intro key op a h
   simp only [Im.attrVal] at h
   (repeat' split at h) <;> first | (simp only [Option.some.injEq, Prod.mk.injEq] at h; obtain ⟨rfl, rfl⟩ := h; exact ⟨_, _, _, _, rfl⟩) | cases h
  rw [Im.attr] at h
  cases hw : Im.ident s (Im.ws s (i + 1)) with
  | none => rw [hw] at h; cases h
  | some q =>
   obtain ⟨key, i2⟩ := q
   rw [hw] at h
   simp only at h
   (repeat' split at h) <;> first | exact hv _ _ _ h | (simp only [Option.some.injEq, Prod.mk.injEq] at h; obtain ⟨rfl, rfl⟩ := h; exact ⟨_, _, _, _, rfl⟩) | cases h
 obtain ⟨k, v, o, b, rfl⟩ := key
 rw [Rep]; rfl
theorem seq_calls (p : Nat) (s : List UInt8) (i d : Nat) (acc : Bool) (w0 : World) (hp : PD p s i d acc w0) (hb : s.length ≤ 1000) (hi : i ≤ s.length) (hrng : RNG p w0) (hd : d ≤ i + 1) (grp : Nat → Option (List IS × Nat)) (hgw : Im.GrpW s grp (i + 1)) (hgrp : GrpI p s acc grp (i + 1)) :
 CR PR 39 [pP p] w0 fun v w' => PSel p s d acc w0 (Im.seq s grp acc i) v w' := by
 have hpl := hp.lt
 have hG : Gr w0 w0 (some p) := Gr.refl _ _
 refine CR.of (n := 180) [(0, pP p)] Tryz.func39 rfl Tryz.ntmps39 rfl ⟨rfl, trivial⟩<|qr<|pr 2 rfl<|ns<|C.scope<|qr<|pr 1 rfl<|nsq<|rQ<|dR<|prq 2 rfl<|fQ fo63_1 rfl<|lQ sc3 hp rfl rfl<|prq 2 rfl<|fQ fo63_0 rfl<|lQ sc9 hp rfl rfl<|qw (fun w hw => R.lenS rfl u9) rfl<|qw (fun w hw => R.geI rfl rfl) rfl<|Wq.nil fun w hw => ?_
 have hp := hp.grN hw
 have hG := hG.trans (hw.no _)
 refine rS<|cD rfl (fun h1 => ?_) fun h1 => ?_
 ·try norm_cast at h1
  refine qr<|eN en21 rfl (errNew_calls _ _) fun v w hv => ?_
  obtain ⟨⟨et, eu, rfl⟩, hv⟩ := hv
  have hp := hp.grN hv
  have hG := hG.trans (hv.no _)
  refine pr 2 rfl<|nsth<|At.noRet<|At.res2 rfl rfl rfl ?_
  have hX : Im.seq s grp acc i = none := by
   rw [Im.seq, if_pos om]
  rw [hX]
  exact ⟨_, _, _, rfl, ⟨_, _, rfl⟩, hp, hG⟩
 try norm_cast at h1
 refine ks<|C.cut (fun l w' => ∃ (vl : Value) (l0 : List IS) (j : Nat), l = [(0, pP p), (4, vl)] ∧ PD p s j d acc w' ∧ Gr w0 w' (some p) ∧ SLG w0.heap.size w' l0 vl ∧ Im.seqHead s i = some (l0, j) ∧ i ≤ j ∧ j ≤ s.length ∧ l0.length ≤ 1) ?_ ?_
 ·refine rQ<|dR<|prq 2 rfl<|fQ fo63_0 rfl<|lQ sc9 hp rfl rfl<|prq 2 rfl<|fQ fo63_1 rfl<|lQ sc3 hp rfl rfl<|qw (fun w hw => R.idxS rfl rfl _ rfl om u9) rfl<|Wq.nil fun w hw => ?_
  have hp := hp.grN hw
  have hG := hG.trans (hw.no _)
  refine rS<|rO<|qr<|qq (R.eqI rfl rfl) rfl<|pr 1 rfl<|ns<|cD rfl (fun h2 => ?_) fun h2 => ?_
  ·try norm_cast at h2
   refine qr<|pr 2 rfl<|fA fo63_1 rfl<|lD sc3 hp rfl rfl<|aK rfl rfl<|pr 1 rfl<|fA fo63_1 rfl<|sT sc3 hp rfl fun w hp hs => ?_
   have hp : Blk _ p 63 [str s, .int .i64 ((i + 1 : Nat) : Int), .int .i64 ((d : Nat) : Int), .bool acc] := hp
   have hG := hG.trans hs
   refine nsq<|dR<|prq 2 rfl<|fQ fo63_1 rfl<|lQ sc3 hp rfl rfl<|qw (fun w hw => R.addK 2 rfl rfl om) rfl<|prq 2 rfl<|fQ fo63_0 rfl<|lQ sc9 hp rfl rfl<|qw (fun w hw => R.lenS rfl u9) rfl<|Wq.split (fun w hw => R.ltI rfl rfl) rfl rfl rfl (fun h3 => ?_) (fun h3 => ?_)
   ·try norm_cast at h3
    refine prq 3 rfl<|gw (fun w hw => R.fieldAddr fo63_0 rfl) rfl<|gw (fun w hw => R.load sc9 rfl (hp.grN hw) rfl) rfl<|prq 2 rfl<|gw (fun w hw => R.fieldAddr fo63_1 rfl) rfl<|gw (fun w hw => R.load sc3 rfl (hp.grN hw) rfl) rfl<|prq 2 rfl<|gw (fun w hw => R.fieldAddr fo63_1 rfl) rfl<|gw (fun w hw => R.load sc3 rfl (hp.grN hw) rfl) rfl<|gw (fun w hw => R.addK 2 rfl rfl om) rfl<|gw (fun w hw => R.sliceS rfl rfl rfl rfl rfl om om u9) rfl<|Wq.gsplit rfl (fun w hw => R.eqS rfl rfl) rfl rfl rfl (fun h4 => ?_) (fun h4 => ?_)
    ·try norm_cast at h4
     refine prq 1 rfl<|Wq.nil fun w hw => ?_
     have hp := hp.grN hw
     have hG := hG.trans (hw.no _)
     refine rS<|cV rfl<|rR<|pr 2 rfl<|fA fo63_1 rfl<|lD sc3 hp rfl rfl<|qq (R.addK 2 rfl rfl om) rfl<|pr 1 rfl<|fA fo63_1 rfl<|sT sc3 hp rfl fun w hp hs => ?_
     have hp : Blk _ p 63 [str s, .int .i64 ((i + 1 + 2 : Nat) : Int), .int .i64 ((d : Nat) : Int), .bool acc] := hp
     have hG := hG.trans hs
     refine nB ?_
     have hS := SLG.nil w0.heap.size w
     have ht2 := (take2_eq (show i + 1 + 1 < s.length by omega) 124 42).1 h4
     have hH : Im.seqHead s i = some ([], i + 1 + 2) := by rw [Im.seqHead, if_pos om, if_pos ⟨om, ht2⟩]
     exact cT [(0, pP p), (4, _)] rfl ⟨_, _, _, rfl, hp, hG, hS, hH, om, om, by simp⟩
    try norm_cast at h4
    refine prq 1 rfl<|Wq.nil fun w hw => ?_
    have hp := hp.grN hw
    have hG := hG.trans (hw.no _)
    refine rS<|cF rfl<|rK<|rB ?_
    have hS := SLG.nil w0.heap.size w
    have hH : Im.seqHead s i = some ([], i + 1) := by
     rw [Im.seqHead, if_pos om, if_neg ?_]
     intro hq
     first | (have := hq.1; omega) | exact absurd ((take2_eq (show i + 1 + 1 < s.length by omega) 124 42).2 hq.2) aM
    exact cT [(0, pP p), (4, _)] rfl ⟨_, _, _, rfl, hp, hG, hS, hH, om, om, by simp⟩
   try norm_cast at h3
   refine prq 17 rfl<|Wq.nil fun w hw => ?_
   have hp := hp.grN hw
   have hG := hG.trans (hw.no _)
   refine rS<|cF rfl<|rK<|rB ?_
   have hS := SLG.nil w0.heap.size w
   have hH : Im.seqHead s i = some ([], i + 1) := by
    rw [Im.seqHead, if_pos om, if_neg ?_]
    intro hq
    first | (have := hq.1; omega) | exact absurd ((take2_eq (show i + 1 + 1 < s.length by omega) 124 42).2 hq.2) aM
   exact cT [(0, pP p), (4, _)] rfl ⟨_, _, _, rfl, hp, hG, hS, hH, om, om, by simp⟩
  try norm_cast at h2
  refine qqr<|qq (R.eqI rfl rfl) rfl<|pr 1 rfl<|ns<|cD rfl (fun h5 => ?_) fun h5 => ?_
  ·have h5i := h5
   try norm_cast at h5
   rw [decide_eq_true h5i]
   refine ks<|cV rfl<|rK<|rB ?_
   have hS := SLG.nil w0.heap.size w
   have hH : Im.seqHead s i = some ([], i) := by rw [Im.seqHead, if_neg om, if_pos om]
   exact cT [(0, pP p), (4, _)] rfl ⟨_, _, _, rfl, hp, hG, hS, hH, om, om, by simp⟩
  have h5i := h5
  try norm_cast at h5
  rw [decide_eq_false h5i]
  refine qr<|qq (R.eqI rfl rfl) rfl<|pr 1 rfl<|ns<|cD rfl (fun h6 => ?_) fun h6 => ?_
  ·have h6i := h6
   try norm_cast at h6
   rw [decide_eq_true h6i]
   refine ks<|cV rfl<|rK<|rB ?_
   have hS := SLG.nil w0.heap.size w
   have hH : Im.seqHead s i = some ([], i) := by rw [Im.seqHead, if_neg om, if_pos om]
   exact cT [(0, pP p), (4, _)] rfl ⟨_, _, _, rfl, hp, hG, hS, hH, om, om, by simp⟩
  have h6i := h6
  try norm_cast at h6
  rw [decide_eq_false h6i]
  refine qr<|qq (R.eqI rfl rfl) rfl<|pr 1 rfl<|ns<|cD rfl (fun h7 => ?_) fun h7 => ?_
  ·have h7i := h7
   try norm_cast at h7
   rw [decide_eq_true h7i]
   refine ks<|cV rfl<|rK<|rB ?_
   have hS := SLG.nil w0.heap.size w
   have hH : Im.seqHead s i = some ([], i) := by rw [Im.seqHead, if_neg om, if_pos om]
   exact cT [(0, pP p), (4, _)] rfl ⟨_, _, _, rfl, hp, hG, hS, hH, om, om, by simp⟩
  have h7i := h7
  try norm_cast at h7
  rw [decide_eq_false h7i]
  refine rR<|qq (R.eqI rfl rfl) rfl<|pr 1 rfl<|ns<|cD rfl (fun h8 => ?_) fun h8 => ?_
  ·have h8i := h8
   try norm_cast at h8
   rw [decide_eq_true h8i]
   refine rK<|rB ?_
   have hS := SLG.nil w0.heap.size w
   have hH : Im.seqHead s i = some ([], i) := by rw [Im.seqHead, if_neg om, if_pos om]
   exact cT [(0, pP p), (4, _)] rfl ⟨_, _, _, rfl, hp, hG, hS, hH, om, om, by simp⟩
  have h8i := h8
  try norm_cast at h8
  rw [decide_eq_false h8i]
  refine qr<|pr 1 rfl<|eN en49 rfl (typeSel_calls p s i d acc _ hp hb om) fun v w hv => ?_
  rcases hM9 : Im.ident s i with _ | ⟨x9, j9⟩
  ·rw [hM9] at hv
   obtain ⟨rr9, ee9, j9, rfl, ⟨et9, eu9, rfl⟩, hpo, hv⟩ := hv
   clear hp
   have hp := hpo
   clear hpo
   have hG := hG.trans hv
   refine pr 3 rfl ?_
   have hpl5 := hp.lt
   have hsz5 := hG.size
   refine W.alloc z87 rfl fun w q hqz hR hv => ?_
   have hp := hp.grN hv
   have hG := hG.trans (hv.no _)
   have hpq : p < q := by omega
   have hqw : w0.heap.size ≤ q := by rw [hqz]; exact hsz5
   refine W.storeAll ag87 rfl rfl hR rfl rfl (by intro v hv; simp only [List.mem_cons, List.not_mem_nil, or_false] at hv; subst hv; rfl) fun w hR hs => ?_
   have hp := hp.gr hs sM
   have hG := hG.fresh hs hqw
   refine pr 1 rfl<|nsq<|qr<|pr 1 rfl<|qq (R.neNilT ifc44 rfl) rfl<|ns<|cV rfl<|qr<|pr 3 rfl<|nsth<|rC<|rH<|At.noRet<|At.res2 rfl rfl rfl ?_
   have hX : Im.seq s grp acc i = none := by
    rw [Im.seq, if_neg om, Im.seqHead, if_neg om, if_neg om, hM9]
   rw [hX]
   exact ⟨_, _, _, rfl, ⟨_, _, rfl⟩, hp, hG⟩
  rw [hM9] at hv
  obtain ⟨rfl, hpo, hv⟩ := hv
  clear hp
  have hp := hpo
  clear hpo
  have hG := hG.trans hv
  obtain ⟨hea9, heb9, hec9⟩ := Im.ident_le hM9
  refine pr 3 rfl ?_
  have hpl5 := hp.lt
  have hsz5 := hG.size
  refine W.alloc z87 rfl fun w q hqz hR hv => ?_
  have hp := hp.grN hv
  have hG := hG.trans (hv.no _)
  have hpq : p < q := by omega
  have hqw : w0.heap.size ≤ q := by rw [hqz]; exact hsz5
  refine W.storeAll ag87 rfl rfl hR rfl rfl (by intro v hv; simp only [List.mem_cons, List.not_mem_nil, or_false] at hv; subst hv; rfl) fun w hR hs => ?_
  have hp := hp.gr hs sM
  have hG := hG.fresh hs hqw
  refine pr 1 rfl<|nsq<|qr<|pr 1 rfl<|qq (R.neNilF ifc44 rfl) rfl<|ns<|cF rfl<|ks<|rR<|pr 1 rfl<|qq (R.loadAggC (vs := [str (Sp.lower x9)]) ag87 rfl (fun j u hj => by rw [Nat.zero_add]; exact hR.cell hj) rfl) rfl<|qq (R.mkI rfl mi87) rfl ?_
  have hS := SLG.nil w0.heap.size w
  refine W.buildSlice (ps := [(0, .iface 87 (.agg [str (Sp.lower x9)].toArray))]) (fun a ha => by simp [ha.ev (x := .tmp 41) rfl]) (row41 _ _) rfl fun w kb hkz hB hv => ?_
  have hp := hp.grN hv
  have hG := hG.trans (hv.no _)
  have hS := hS.grN hv
  have hS0 := hS
  refine W.appendSel (X := .tag (Sp.lower x9)) el41 hS rfl rfl hB (by rw [Rep]) (by first | omega | (simp; done)) hG.size rfl fun vl w hS hv => ?_
  have hp := hp.gr hv (hS0.ne hpl)
  have hG := hS0.own hG hv
  refine pr 1 rfl<|nB ?_
  have hH : Im.seqHead s i = some ([.tag (Sp.lower x9)], j9) := by rw [Im.seqHead, if_neg om, if_neg om, hM9]
  exact cT [(0, pP p), (4, _)] rfl ⟨_, _, _, rfl, hp, hG, hS, hH, om, om, by simp⟩
 rintro l w ⟨vl, l0, j0, rfl, hp, hG, hS, hH, hij0, hj0l, hl0⟩
 refine qr<|pr 1 rfl<|nsq<|C.label<|rS<|C.cut (fun l w' => ∃ (vl : Value) (xs : List IS) (pe : List UInt8) (j : Nat), l = [(0, pP p), (4, vl), (7, str pe)] ∧ PD p s j d acc w' ∧ Gr w0 w' (some p) ∧ SLG w0.heap.size w' xs vl ∧ Im.seqGo s grp acc (s.length + 1) l0 [] j0 = some (xs, pe, j) ∧ j ≤ s.length) ?_ ?_
 ·refine rO<|sB [(0, pP p), (4, vl), (7, str [])] rfl<|C.loop (fun m l w' => ∃ (vl : Value) (xs : List IS) (pe : List UInt8) (j : Nat), l = [(0, pP p), (4, vl), (7, str pe)] ∧ PD p s j d acc w' ∧ Gr w0 w' (some p) ∧ SLG w0.heap.size w' xs vl ∧ Im.seqGo s grp acc m xs pe j = Im.seqGo s grp acc (s.length + 1) l0 [] j0 ∧ s.length < j + m ∧ i ≤ j ∧ j ≤ s.length ∧ xs.length ≤ j + 1) (s.length + 1) (⟨vl, l0, [], j0, rfl, hp, hG, hS, rfl, om, om, om, om⟩) ?_
  rintro m l w ⟨vl, xs, pe, j, rfl, hp, hG, hS, hE, hm, hij, hjl, hxl⟩
  refine rQ<|rQ<|dR<|prq 2 rfl<|fQ fo63_1 rfl<|lQ sc3 hp rfl rfl<|prq 2 rfl<|fQ fo63_0 rfl<|lQ sc9 hp rfl rfl<|qw (fun w hw => R.lenS rfl u9) rfl<|qw (fun w hw => R.ltI rfl rfl) rfl<|Wq.nil fun w hw => ?_
  have hp := hp.grN hw
  have hS := hS.grN hw
  have hG := hG.trans (hw.no _)
  refine rS<|cD rfl (fun h10 => ?_) fun h10 => ?_
  ·try norm_cast at h10
   refine ks<|rO<|qr<|pr 1 rfl<|nsqr<|pr 1 rfl<|nsqr<|pr 1 rfl<|ns<|C.cut (fun l w' => ∃ (v8 v9 v10 : Value) (jj : Nat), l = [(0, pP p), (4, vl), (7, str pe), (8, v8), (9, v9), (10, v10)] ∧ PD p s jj d acc w' ∧ Gr w0 w' (some p) ∧ SLG w0.heap.size w' xs vl ∧ (ErrV v10 ∧ Im.simple s grp j = some none ∨ (v10 = .nilIface ∧ v8 = .nilIface ∧ ∃ nm, v9 = str nm ∧ Im.simple s grp j = some (some (none, nm, jj)) ∧ j + 1 ≤ jj ∧ jj ≤ s.length) ∨ (v10 = .nilIface ∧ ∃ x nm, Rep (fun c => w0.heap.size ≤ c ∧ vl.ownBlock ≠ some c) w' x v8 ∧ Im.simple s grp j = some (some (some x, nm, jj)) ∧ j + 1 ≤ jj ∧ jj ≤ s.length))) ?_ ?_
   ·refine rQ<|dR<|prq 2 rfl<|fQ fo63_0 rfl<|lQ sc9 hp rfl rfl<|prq 2 rfl<|fQ fo63_1 rfl<|lQ sc3 hp rfl rfl<|qw (fun w hw => R.idxS rfl rfl _ rfl om u9) rfl<|Wq.nil fun w hw => ?_
    have hp := hp.grN hw
    have hS := hS.grN hw
    have hG := hG.trans (hw.no _)
    refine rS<|rO<|qr<|qq (R.eqI rfl rfl) rfl<|pr 1 rfl<|ns<|cD rfl (fun h11 => ?_) fun h11 => ?_
    ·try norm_cast at h11
     refine rR<|pr 1 rfl<|eN en50 rfl (idSel_calls p s j d acc _ hp hb om om om) fun v w hv => ?_
     rcases hM12 : Im.name s (j + 1) with _ | ⟨x12, j12⟩
     ·rw [hM12] at hv
      obtain ⟨rr12, ee12, j12, rfl, ⟨et12, eu12, rfl⟩, hpo, hv⟩ := hv
      clear hp
      have hp := hpo
      clear hpo
      have hG := hG.trans hv
      have hS := hS.gr hv au
      refine pr 2 rfl<|qq (R.mkI rfl mi91) rfl<|pr 3 rfl<|nB ?_
      have hsi : Im.simple s grp j = some none := by rw [Im.simple, if_pos om, hM12]
      exact cT [(0, pP p), (4, vl), (7, str pe), (8, _), (9, _), (10, _)] rfl ⟨_, _, _, j12, rfl, hp, hG, hS, .inl ⟨⟨_, _, rfl⟩, hsi⟩⟩
     rw [hM12] at hv
     obtain ⟨rfl, hpo, hv⟩ := hv
     clear hp
     have hp := hpo
     clear hpo
     have hG := hG.trans hv
     have hS := hS.gr hv au
     refine pr 2 rfl<|qq (R.mkI rfl mi91) rfl<|pr 3 rfl<|nB ?_
     have hsi : Im.simple s grp j = some (some (some (.idt x12), [], j12)) := by rw [Im.simple, if_pos om, hM12]
     have hsl2 := Im.simple_law (GrpW.up hgw om) om hsi
     exact cT [(0, pP p), (4, vl), (7, str pe), (8, _), (9, _), (10, _)] rfl ⟨_, _, _, j12, rfl, hp, hG, hS, .inr (.inr ⟨rfl, _, _, (by rw [Rep]; rfl), hsi, hsl2.1, hsl2.2.1⟩)⟩
    try norm_cast at h11
    refine qr<|qq (R.eqI rfl rfl) rfl<|pr 1 rfl<|ns<|cD rfl (fun h13 => ?_) fun h13 => ?_
    ·try norm_cast at h13
     refine rR<|pr 1 rfl<|eN en51 rfl (classSel_calls p s j d acc _ hp hb om om om) fun v w hv => ?_
     rcases hM14 : Im.ident s (j + 1) with _ | ⟨x14, j14⟩
     ·rw [hM14] at hv
      obtain ⟨rr14, ee14, j14, rfl, ⟨et14, eu14, rfl⟩, hpo, hv⟩ := hv
      clear hp
      have hp := hpo
      clear hpo
      have hG := hG.trans hv
      have hS := hS.gr hv au
      refine pr 2 rfl<|qq (R.mkI rfl mi95) rfl<|pr 3 rfl<|nB ?_
      have hsi : Im.simple s grp j = some none := by rw [Im.simple, if_neg om, if_pos om, hM14]
      exact cT [(0, pP p), (4, vl), (7, str pe), (8, _), (9, _), (10, _)] rfl ⟨_, _, _, j14, rfl, hp, hG, hS, .inl ⟨⟨_, _, rfl⟩, hsi⟩⟩
     rw [hM14] at hv
     obtain ⟨rfl, hpo, hv⟩ := hv
     clear hp
     have hp := hpo
     clear hpo
     have hG := hG.trans hv
     have hS := hS.gr hv au
     refine pr 2 rfl<|qq (R.mkI rfl mi95) rfl<|pr 3 rfl<|nB ?_
     have hsi : Im.simple s grp j = some (some (some (.cls x14), [], j14)) := by rw [Im.simple, if_neg om, if_pos om, hM14]
     have hsl2 := Im.simple_law (GrpW.up hgw om) om hsi
     exact cT [(0, pP p), (4, vl), (7, str pe), (8, _), (9, _), (10, _)] rfl ⟨_, _, _, j14, rfl, hp, hG, hS, .inr (.inr ⟨rfl, _, _, (by rw [Rep]; rfl), hsi, hsl2.1, hsl2.2.1⟩)⟩
    try norm_cast at h13
    refine qr<|qq (R.eqI rfl rfl) rfl<|pr 1 rfl<|ns<|cD rfl (fun h15 => ?_) fun h15 => ?_
    ·try norm_cast at h15
     refine rR<|pr 1 rfl<|eN en52 rfl (attr_calls p s j d acc _ hp hb om om om) fun v w hv => ?_
     rcases hM16 : Im.attr s j with _ | ⟨x16, j16⟩
     ·rw [hM16] at hv
      obtain ⟨rr16, ee16, j16, rfl, ⟨et16, eu16, rfl⟩, hpo, hv⟩ := hv
      clear hp
      have hp := hpo
      clear hpo
      have hG := hG.trans hv
      have hS := hS.gr hv au
      refine pr 2 rfl<|qq (R.mkI rfl mi99) rfl<|pr 3 rfl<|nB ?_
      have hsi : Im.simple s grp j = some none := by rw [Im.simple, if_neg om, if_neg om, if_pos om, hM16]
      exact cT [(0, pP p), (4, vl), (7, str pe), (8, _), (9, _), (10, _)] rfl ⟨_, _, _, j16, rfl, hp, hG, hS, .inl ⟨⟨_, _, rfl⟩, hsi⟩⟩
     rw [hM16] at hv
     obtain ⟨rfl, hpo, hv⟩ := hv
     clear hp
     have hp := hpo
     clear hpo
     have hG := hG.trans hv
     have hS := hS.gr hv au
     refine pr 2 rfl<|qq (R.mkI rfl mi99) rfl<|pr 3 rfl<|nB ?_
     have hsi : Im.simple s grp j = some (some (some (x16), [], j16)) := by rw [Im.simple, if_neg om, if_neg om, if_pos om, hM16]
     have hsl2 := Im.simple_law (GrpW.up hgw om) om hsi
     exact cT [(0, pP p), (4, vl), (7, str pe), (8, _), (9, _), (10, _)] rfl ⟨_, _, _, j16, rfl, hp, hG, hS, .inr (.inr ⟨rfl, _, _, (attrV_rep hM16), hsi, hsl2.1, hsl2.2.1⟩)⟩
    try norm_cast at h15
    refine qr<|qq (R.eqI rfl rfl) rfl<|pr 1 rfl<|ns<|cD rfl (fun h17 => ?_) fun h17 => ?_
    ·try norm_cast at h17
     refine rR<|pr 1 rfl<|eN en53 rfl (pse_calls p s j d acc _ hp hb om (hrng.gr hG) om grp (GrpLe.of hgw om) (hgrp.up om) om om) fun v w hv => ?_
     rcases hM18 : Im.pse s grp j with _ | ⟨_ | x18, nm18, j18⟩
     ·rw [hM18] at hv
      obtain ⟨rr18, rq18, ee18, j18, rfl, ⟨et18, eu18, rfl⟩, hpo, hv⟩ := hv
      clear hp
      have hp := hpo
      clear hpo
      have hG := hG.trans hv
      have hS := hS.gr hv au
      refine pr 7 rfl<|nB ?_
      have hsi : Im.simple s grp j = some none := by rw [Im.simple, if_neg om, if_neg om, if_neg om, if_pos om, hM18]
      exact cT [(0, pP p), (4, vl), (7, str pe), (8, _), (9, _), (10, _)] rfl ⟨_, _, _, j18, rfl, hp, hG, hS, .inl ⟨⟨_, _, rfl⟩, hsi⟩⟩
     ·rw [hM18] at hv
      obtain ⟨rfl, hpo, hv⟩ := hv
      clear hp
      have hp := hpo
      clear hpo
      have hG := hG.trans hv
      have hS := hS.gr hv au
      have hsl := Im.pse_law (GrpW.up hgw om) hM18
      refine pr 7 rfl<|nB ?_
      have hsi : Im.simple s grp j = some (some (none, nm18, j18)) := by rw [Im.simple, if_neg om, if_neg om, if_neg om, if_pos om, hM18]
      exact cT [(0, pP p), (4, vl), (7, str pe), (8, _), (9, _), (10, _)] rfl ⟨_, _, _, j18, rfl, hp, hG, hS, .inr (.inl ⟨rfl, rfl, _, rfl, hsi, om, om⟩)⟩
     rw [hM18] at hv
     have hS0 := hS
     have hsz0 := hG.size
     obtain ⟨vx, rfl, hrp, hpo, hv⟩ := hv
     clear hp
     have hp := hpo
     clear hpo
     have hG := hG.trans hv
     have hS := hS.gr hv au
     have hrp := Rep.apart hS0 hsz0 hrp
     have hsl := Im.pse_law (GrpW.up hgw om) hM18
     refine pr 7 rfl<|nB ?_
     have hsi : Im.simple s grp j = some (some (some (x18), nm18, j18)) := by rw [Im.simple, if_neg om, if_neg om, if_neg om, if_pos om, hM18]
     have hsl2 := Im.simple_law (GrpW.up hgw om) om hsi
     exact cT [(0, pP p), (4, vl), (7, str pe), (8, _), (9, _), (10, _)] rfl ⟨_, _, _, j18, rfl, hp, hG, hS, .inr (.inr ⟨rfl, _, _, hrp, hsi, hsl2.1, hsl2.2.1⟩)⟩
    try norm_cast at h17
    refine rE<|At.blockExitNe rfl<|rX<|At.blockExitNe rfl<|rX<|rY ?_
    have hQ : Im.seqGo s grp acc (s.length + 1) l0 [] j0 = some (xs, pe, j) := by
     obtain ⟨m, rfl⟩ := sU m
     rw [← hE, Im.seqGo]
     rw [if_pos om, show Im.simple s grp j = none from by rw [Im.simple, if_neg om, if_neg om, if_neg om, if_neg om]]
    exact cT [(0, pP p), (4, vl), (7, str pe)] rfl ⟨vl, xs, pe, j, rfl, hp, hG, hS, hQ, hjl⟩
   rintro l w ⟨v8, v9, v10, jj, rfl, hp, hG, hS, hc8⟩
   refine rQ<|rQ ?_
   rcases hc8 with ⟨⟨et, eu, rfl⟩, hsi⟩ | ⟨rfl, rfl, nm, rfl, hsi, hj1, hj2⟩ | ⟨rfl, x, nm, hrp, hsi, hj1, hj2⟩
   ·refine rR<|pr 1 rfl<|qq (R.neNilT ifc44 rfl) rfl<|ns<|cV rfl<|qr<|pr 3 rfl<|nsth<|rC<|rH<|rC<|rH<|At.noRet ?_
    obtain ⟨m, rfl⟩ := sU m
    rw [Im.seqGo, if_pos om, hsi] at hE
    try simp only [] at hE
    refine At.res2 rfl rfl rfl ?_
    have hX : Im.seq s grp acc i = none := by
     rw [Im.seq, if_neg om, hH]
     simp only []
     rw [← hE]; rfl
    rw [hX]
    exact ⟨_, _, _, rfl, ⟨_, _, rfl⟩, hp, hG⟩
   ·refine rR<|pr 1 rfl<|qq (R.neNilF ifc44 rfl) rfl<|ns<|cF rfl<|ksqr<|pr 1 rfl<|qq (R.eqNilT ifc48 rfl) rfl<|ns<|cV rfl<|qqr<|pr 1 rfl<|qq (R.neS rfl rfl) rfl<|ns<|cD rfl (fun h19 => ?_) fun h19 => ?_
    ·try norm_cast at h19
     refine qr<|eN en21 rfl (errNew_calls _ _) fun v w hv => ?_
     obtain ⟨⟨et, eu, rfl⟩, hv⟩ := hv
     have hp := hp.grN hv
     have hG := hG.trans (hv.no _)
     have hS := hS.gr hv au
     refine pr 2 rfl<|nsth<|rC<|rH<|rC<|rH<|At.noRet ?_
     obtain ⟨m, rfl⟩ := sU m
     rw [Im.seqGo, if_pos om, hsi] at hE
     simp only [] at hE
     rw [if_pos aM] at hE
     refine At.res2 rfl rfl rfl ?_
     have hX : Im.seq s grp acc i = none := by
      rw [Im.seq, if_neg om, hH]
      simp only []
      rw [← hE]; rfl
     rw [hX]
     exact ⟨_, _, _, rfl, ⟨_, _, rfl⟩, hp, hG⟩
    try norm_cast at h19
    refine ksq<|qr<|pr 2 rfl<|fA fo63_3 rfl<|lD sc4 hp rfl rfl<|pr 1 rfl<|ns<|cC rfl (fun h20 => ?_) (fun h20 => ?_)
    ·try simp only [Bool.not_eq_true', Bool.not_eq_false'] at h20
     refine qr<|eN en21 rfl (errNew_calls _ _) fun v w hv => ?_
     obtain ⟨⟨et, eu, rfl⟩, hv⟩ := hv
     have hp := hp.grN hv
     have hG := hG.trans (hv.no _)
     have hS := hS.gr hv au
     refine pr 2 rfl<|nsth<|rC<|rH<|rC<|rH<|At.noRet ?_
     obtain ⟨m, rfl⟩ := sU m
     rw [Im.seqGo, if_pos om, hsi] at hE
     simp only [] at hE
     rw [if_neg aM, if_pos aM] at hE
     refine At.res2 rfl rfl rfl ?_
     have hX : Im.seq s grp acc i = none := by
      rw [Im.seq, if_neg om, hH]
      simp only []
      rw [← hE]; rfl
     rw [hX]
     exact ⟨_, _, _, rfl, ⟨_, _, rfl⟩, hp, hG⟩
    try simp only [Bool.not_eq_true', Bool.not_eq_false'] at h20
    refine ks<|rR<|pr 2 rfl<|nB ?_
    obtain ⟨m, rfl⟩ := sU m
    rw [Im.seqGo, if_pos om, hsi] at hE
    simp only [] at hE
    rw [if_neg aM, if_neg (by simp [*])] at hE
    exact cT [(0, pP p), (4, vl), (7, str nm)] rfl ⟨m, om, vl, xs, nm, jj, rfl, hp, hG, hS, hE, om, om, om, om⟩
   obtain ⟨vt, vu, rfl⟩ := hrp.ifc
   refine rR<|pr 1 rfl<|qq (R.neNilF ifc44 rfl) rfl<|ns<|cF rfl<|ksqr<|pr 1 rfl<|qq (R.eqNilF ifc48 rfl) rfl<|ns<|cF rfl<|qqr<|pr 1 rfl<|qq (R.neS rfl rfl) rfl<|ns<|cD rfl (fun h21 => ?_) fun h21 => ?_
   ·try norm_cast at h21
    refine qr<|eN en21 rfl (errNew_calls _ _) fun v w hv => ?_
    obtain ⟨⟨et, eu, rfl⟩, hv⟩ := hv
    have hp := hp.grN hv
    have hG := hG.trans (hv.no _)
    have hS := hS.gr hv au
    refine pr 2 rfl<|nsth<|rC<|rH<|rC<|rH<|At.noRet ?_
    obtain ⟨m, rfl⟩ := sU m
    rw [Im.seqGo, if_pos om, hsi] at hE
    simp only [] at hE
    rw [if_pos aM] at hE
    refine At.res2 rfl rfl rfl ?_
    have hX : Im.seq s grp acc i = none := by
     rw [Im.seq, if_neg om, hH]
     simp only []
     rw [← hE]; rfl
    rw [hX]
    exact ⟨_, _, _, rfl, ⟨_, _, rfl⟩, hp, hG⟩
   try norm_cast at h21
   refine ks<|rR<|pr 2 rfl<|W.buildSlice (ps := [(0, .iface vt vu)]) (fun a ha => by simp [ha.ev (x := .tmp 163) rfl]) (row41 _ _) rfl fun w kb hkz hB hv => ?_
   have hp := hp.grN hv
   have hG := hG.trans (hv.no _)
   have hS := hS.grN hv
   have hrp := hrp.grN hv
   have hS0 := hS
   refine W.appendSel (X := x) el41 hS rfl rfl hB hrp (by first | omega | (simp; done)) hG.size rfl fun vl w hS hv => ?_
   have hp := hp.gr hv (hS0.ne hpl)
   have hG := hS0.own hG hv
   refine pr 1 rfl<|nB ?_
   obtain ⟨m, rfl⟩ := sU m
   rw [Im.seqGo, if_pos om, hsi] at hE
   simp only [] at hE
   rw [if_neg aM] at hE
   exact cT [(0, pP p), (4, vl), (7, str pe)] rfl ⟨m, om, vl, xs ++ [x], pe, jj, rfl, hp, hG, hS, hE, om, om, om, by simp only [List.length_append, List.length_cons, List.length_nil]; omega⟩
  try norm_cast at h10
  refine rE<|rX<|rX<|rY ?_
  have hQ : Im.seqGo s grp acc (s.length + 1) l0 [] j0 = some (xs, pe, j) := by
   obtain ⟨m, rfl⟩ := sU m
   rw [← hE, Im.seqGo]
   rw [if_neg om]
  exact cT [(0, pP p), (4, vl), (7, str pe)] rfl ⟨vl, xs, pe, j, rfl, hp, hG, hS, hQ, hjl⟩
 rintro l w ⟨vl, xs, pe, j, rfl, hp, hG, hS, hQ, hjl⟩
 obtain ⟨va, vc, rfl⟩ := hS.slice
 refine qqr<|pr 1 rfl<|qq (R.lenL rfl slq41) rfl<|W.split (R.eqI rfl rfl) rfl rfl rfl (fun h22 => ?_) (fun h22 => ?_)
 ·try norm_cast at h22
  refine pr 2 rfl<|W.gsplit rfl (R.eqS rfl rfl) rfl rfl rfl (fun h23 => ?_) (fun h23 => ?_)
  ·try norm_cast at h23
   refine pr 1 rfl<|ns<|cV rfl<|rQ ?_
   obtain ⟨x, rfl⟩ : ∃ x, xs = [x] := List.length_eq_one_iff.1 aM
   obtain ⟨hb0, hc0, hv0, hq, hcell, hrep⟩ := hS.head
   injection hq with hq1 hq2 hq3
   subst hq1 hq3
   refine rR<|pr 1 rfl<|qq (R.idxA rfl rfl 0 rfl (by simp) sl41) rfl<|qq (R.loadC sc48 rfl hcell) rfl<|pr 2 rfl<|nsth<|At.noRet<|At.res2 rfl rfl rfl ?_
   have hX : Im.seq s grp acc i = some (x, j) := by
    rw [Im.seq, if_neg om, hH]
    simp only []
    rw [hQ]; exact seqEnd_one aM
   rw [hX]
   exact ⟨_, rfl, hrep, hp, hG⟩
  try norm_cast at h23
  refine pr 1 rfl<|ns<|cF rfl<|ksqr<|pr 2 rfl<|qq (R.build (vs := [.slice va xs.length vc, str pe]) (ps := [(0, .slice va xs.length vc), (1, str pe)]) (fun a ha => by simp [ha.ev (x := .tmp 176) rfl, ha.ev (x := .tmp 177) rfl]) (b105 pe va _ vc)) rfl<|qq (R.mkI rfl mi105) rfl<|pr 2 rfl<|nst<|At.noRet<|At.res2 rfl rfl rfl ?_
  have hX : Im.seq s grp acc i = some (.comp xs pe, j) := by
   rw [Im.seq, if_neg om, hH]
   simp only []
   rw [hQ]; exact seqEnd_comp (by intro hq; first | exact absurd hq.1 aM | exact absurd hq.2 aM)
  rw [hX]
  exact ⟨_, rfl, hS.comp pe, hp, hG⟩
 try norm_cast at h22
 refine pr 4 rfl<|ns<|cF rfl<|ksqr<|pr 2 rfl<|qq (R.build (vs := [.slice va xs.length vc, str pe]) (ps := [(0, .slice va xs.length vc), (1, str pe)]) (fun a ha => by simp [ha.ev (x := .tmp 176) rfl, ha.ev (x := .tmp 177) rfl]) (b105 pe va _ vc)) rfl<|qq (R.mkI rfl mi105) rfl<|pr 2 rfl<|nst<|At.noRet<|At.res2 rfl rfl rfl ?_
 have hX : Im.seq s grp acc i = some (.comp xs pe, j) := by
  rw [Im.seq, if_neg om, hH]
  simp only []
  rw [hQ]; exact seqEnd_comp (by intro hq; first | exact absurd hq.1 aM | exact absurd hq.2 aM)
 rw [hX]
 exact ⟨_, rfl, hS.comp pe, hp, hG⟩
theorem sel_calls (p : Nat) (s : List UInt8) (i d : Nat) (acc : Bool) (w0 : World) (hp : PD p s i d acc w0) (hb : s.length ≤ 1000) (hi : i ≤ s.length) (hrng : RNG p w0) (hd : d ≤ i + 1) (grp : Nat → Option (List IS × Nat)) (hgw : Im.GrpW s grp (i + 1)) (hgrp : GrpI p s acc grp (i + 1)) :
 CR PR 31 [pP p] w0 fun v w' => PSel p s d acc w0 (Im.sel s grp acc i) v w' := by
 have hpl := hp.lt
 have hG : Gr w0 w0 (some p) := Gr.refl _ _
 refine CR.of (n := 82) [(0, pP p)] Tryz.func31 rfl Tryz.ntmps31 rfl ⟨rfl, trivial⟩<|qr<|pr 2 rfl<|nsqr<|pr 1 rfl<|eN en38 rfl (ws_calls p s i d acc _ hp hb om) fun v w hv => ?_
 obtain ⟨hv1, hpo, hv⟩ := hv
 obtain ⟨hwa1, hwb1⟩ := Im.ws_le s i
 have hwb1 := hwb1 om
 clear hp
 generalize hj1 : Im.ws s i = j1 at hv1 hpo hwa1 hwb1
 have hp := hpo
 clear hpo
 subst hv1
 have hG := hG.trans hv
 refine nsqr<|pr 1 rfl<|eN en39 rfl (seq_calls p s j1 d acc _ hp hb om (hrng.gr hG) om grp (GrpW.up hgw om) (hgrp.up om)) fun v w hv => ?_
 rcases hM2 : Im.seq s grp acc j1 with _ | ⟨x2, j2⟩
 ·rw [hM2] at hv
  obtain ⟨rr2, ee2, j2, rfl, ⟨et2, eu2, rfl⟩, hpo, hv⟩ := hv
  clear hp
  have hp := hpo
  clear hpo
  have hG := hG.trans hv
  refine pr 5 rfl<|nsq<|qr<|pr 1 rfl<|qq (R.neNilT ifc44 rfl) rfl<|ns<|cV rfl<|qr<|pr 3 rfl<|nsth<|At.res2 rfl rfl rfl ?_
  have hX : Im.sel s grp acc i = none := by
   rw [Im.sel, hj1, hM2]
  rw [hX]
  exact ⟨_, _, _, rfl, ⟨_, _, rfl⟩, hp, hG⟩
 rw [hM2] at hv
 obtain ⟨vx, rfl, hrx, hpo, hv⟩ := hv
 have hrx := hrx.base hG.size
 clear hp
 have hp := hpo
 clear hpo
 have hG := hG.trans hv
 obtain ⟨hea2, heb2, -, -⟩ := Im.seq_law (GrpW.up hgw om) hM2
 refine pr 5 rfl<|nsq<|qr<|pr 1 rfl<|qq (R.neNilF ifc44 rfl) rfl<|ns<|cF rfl<|ks<|rO ?_
 have hA : Im.sel s grp acc i = Im.selGo s grp acc (s.length + 1) x2 j2 := by rw [Im.sel, hj1, hM2]
 refine sB [(0, pP p), (4, vx)] rfl<|C.loop (fun m l w' => ∃ (vx : Value) (x : IS) (j : Nat), l = [(0, pP p), (4, vx)] ∧ PD p s j d acc w' ∧ Gr w0 w' (some p) ∧ Rep (w0.heap.size ≤ ·) w' x vx ∧ Im.selGo s grp acc m x j = Im.selGo s grp acc (s.length + 1) x2 j2 ∧ s.length < j + m ∧ i ≤ j ∧ j ≤ s.length) (s.length + 1) (⟨vx, x2, j2, rfl, hp, hG, hrx, rfl, om, om, om⟩) ?_
 rintro m l w ⟨vx, x, j, rfl, hp, hG, hrx, hE, hm, hij, hjl⟩
 refine rO<|qr<|pr 1 rfl<|nsqr<|pr 1 rfl<|ns<|C.cut (fun l w' => ∃ c6 : Nat, l = [(0, pP p), (4, vx), (6, .int .u8 (c6 : Int))] ∧ PD p s (Im.ws s j) d acc w' ∧ Gr w0 w' (some p) ∧ Rep (w0.heap.size ≤ ·) w' x vx ∧ c6 = if j < Im.ws s j then 32 else 0) ?_ ?_
 ·refine qr<|pr 1 rfl<|eN en38 rfl (ws_calls p s j d acc _ hp hb om) fun v w hv => ?_
  obtain ⟨hv1, hpo, hv⟩ := hv
  obtain ⟨hwa3, hwb3⟩ := Im.ws_le s j
  have hwb3 := hwb3 om
  clear hp
  generalize hj3 : Im.ws s j = j3 at hv1 hpo hwa3 hwb3
  have hp := hpo
  clear hpo
  subst hv1
  have hG := hG.trans hv
  have hrx := hrx.gr hv au
  refine ns<|cD rfl (fun h4 => ?_) fun h4 => ?_
  ·try norm_cast at h4
   refine rR<|pr 1 rfl<|rN ?_
   exact cT [(0, pP p), (4, vx), (6, .int .u8 ((32 : Nat) : Int))] rfl ⟨_, rfl, (by first | exact hp | (rw [hj3]; exact hp)), hG, hrx, (by first | exact (if_pos om).symm | (rw [hj3]; exact (if_pos om).symm))⟩
  try norm_cast at h4
  refine rK ?_
  exact cT [(0, pP p), (4, vx), (6, .int .u8 ((0 : Nat) : Int))] rfl ⟨_, rfl, (by first | exact hp | (rw [hj3]; exact hp)), hG, hrx, (by first | exact (if_neg om).symm | (rw [hj3]; exact (if_neg om).symm))⟩
 rintro l w ⟨c6, rfl, hpo, hG, hrx, hc6⟩
 obtain ⟨hwa, hwb⟩ := Im.ws_le s j
 have hwb := hwb om
 generalize hjw : Im.ws s j = jw at hpo hc6 hwa hwb
 have hp := hpo
 clear hpo
 refine rQ<|rQ<|dR<|prq 2 rfl<|fQ fo63_1 rfl<|lQ sc3 hp rfl rfl<|prq 2 rfl<|fQ fo63_0 rfl<|lQ sc9 hp rfl rfl<|qw (fun w hw => R.lenS rfl u9) rfl<|qw (fun w hw => R.geI rfl rfl) rfl<|Wq.nil fun w hw => ?_
 have hp := hp.grN hw
 have hrx := hrx.grN hw
 have hG := hG.trans (hw.no _)
 refine rS<|cD rfl (fun h5 => ?_) fun h5 => ?_
 ·try norm_cast at h5
  refine qr<|pr 3 rfl<|nsth<|rC<|rH<|rC<|At.res2 rfl rfl rfl ?_
  have hX : Im.sel s grp acc i = some (x, jw) := by
   obtain ⟨m, rfl⟩ := sU m
   rw [hA, ← hE, Im.selGo]
   simp only []
   rw [hjw, if_pos om]
  rw [hX]
  exact ⟨_, rfl, hrx, hp, hG⟩
 try norm_cast at h5
 refine ks<|C.cut (fun l w' => ∃ (c jj : Nat), l = [(0, pP p), (4, vx), (6, .int .u8 (c : Int))] ∧ PD p s jj d acc w' ∧ Gr w0 w' (some p) ∧ Rep (w0.heap.size ≤ ·) w' x vx ∧ (c = 0 ∧ Im.selGo s grp acc m x j = some (x, jj) ∨ ¬ c = 0 ∧ c < 256 ∧ Im.selGo s grp acc m x j = Im.selNext s grp acc (m - 1) x c jj ∧ j + 1 ≤ jj) ∧ j ≤ jj ∧ jj ≤ s.length) ?_ ?_
 ·refine rQ<|dR<|prq 2 rfl<|fQ fo63_0 rfl<|lQ sc9 hp rfl rfl<|prq 2 rfl<|fQ fo63_1 rfl<|lQ sc3 hp rfl rfl<|qw (fun w hw => R.idxS rfl rfl _ rfl om u9) rfl<|Wq.nil fun w hw => ?_
  have hp := hp.grN hw
  have hrx := hrx.grN hw
  have hG := hG.trans (hw.no _)
  refine rS<|rO<|C.cut (fun l w' => ∃ bd : Bool, l = [(0, pP p), (4, vx), (6, .int .u8 (c6 : Int)), (39, .int .u8 (byteAt s jw : Int)), (40, .bool bd)] ∧ PD p s jw d acc w' ∧ Gr w0 w' (some p) ∧ Rep (w0.heap.size ≤ ·) w' x vx ∧ bd = decide (byteAt s jw = 43 ∨ byteAt s jw = 62 ∨ byteAt s jw = 126)) ?_ ?_
  ·refine qr<|qq (R.eqI rfl rfl) rfl<|pr 1 rfl<|ns<|cD rfl (fun h6 => ?_) fun h6 => ?_
   ·have h6i := h6
    try norm_cast at h6
    rw [decide_eq_true h6i]
    refine rK ?_
    exact cT [(0, pP p), (4, vx), (6, .int .u8 (c6 : Int)), (39, .int .u8 (byteAt s jw : Int)), (40, .bool true)] rfl ⟨_, rfl, hp, hG, hrx, by rw [Bool.eq_iff_iff]; simp; omega⟩
   have h6i := h6
   try norm_cast at h6
   rw [decide_eq_false h6i]
   refine qr<|qq (R.eqI rfl rfl) rfl<|pr 1 rfl<|ns<|cD rfl (fun h7 => ?_) fun h7 => ?_
   ·have h7i := h7
    try norm_cast at h7
    rw [decide_eq_true h7i]
    refine rK ?_
    exact cT [(0, pP p), (4, vx), (6, .int .u8 (c6 : Int)), (39, .int .u8 (byteAt s jw : Int)), (40, .bool true)] rfl ⟨_, rfl, hp, hG, hrx, by rw [Bool.eq_iff_iff]; simp; omega⟩
   have h7i := h7
   try norm_cast at h7
   rw [decide_eq_false h7i]
   refine rR<|qq (R.eqI rfl rfl) rfl<|pr 1 rfl<|rN ?_
   exact cT [(0, pP p), (4, vx), (6, .int .u8 (c6 : Int)), (39, .int .u8 (byteAt s jw : Int)), (40, _)] rfl ⟨_, rfl, hp, hG, hrx, by rw [Bool.eq_iff_iff]; simp; omega⟩
  rintro l w ⟨bd, rfl, hp, hG, hrx, hbd⟩
  refine cC rfl (fun h8 => ?_) (fun h8 => ?_)
  ·try simp only [Bool.not_eq_true', Bool.not_eq_false'] at h8
   subst h8
   refine rQ<|dR<|prq 2 rfl<|fQ fo63_0 rfl<|lQ sc9 hp rfl rfl<|prq 2 rfl<|fQ fo63_1 rfl<|lQ sc3 hp rfl rfl<|qw (fun w hw => R.idxS rfl rfl _ rfl om u9) rfl<|prq 1 rfl<|Wq.nil fun w hw => ?_
   have hp := hp.grN hw
   have hrx := hrx.grN hw
   have hG := hG.trans (hw.no _)
   refine sqr<|pr 2 rfl<|fA fo63_1 rfl<|lD sc3 hp rfl rfl<|aK rfl rfl<|pr 1 rfl<|fA fo63_1 rfl<|sT sc3 hp rfl fun w hp hs => ?_
   have hrx := hrx.gr hs au
   have hp : Blk _ p 63 [str s, .int .i64 ((jw + 1 : Nat) : Int), .int .i64 ((d : Nat) : Int), .bool acc] := hp
   have hG := hG.trans hs
   refine nsr<|pr 1 rfl<|eN en38 rfl (ws_calls p s (jw + 1) d acc _ hp hb om) fun v w hv => ?_
   obtain ⟨hv1, hpo, hv⟩ := hv
   obtain ⟨hwa9, hwb9⟩ := Im.ws_le s (jw + 1)
   have hwb9 := hwb9 om
   clear hp
   generalize hj9 : Im.ws s (jw + 1) = j9 at hv1 hpo hwa9 hwb9
   have hp := hpo
   clear hpo
   subst hv1
   have hG := hG.trans hv
   have hrx := hrx.gr hv au
   refine nB ?_
   have hn : Im.selGo s grp acc m x j = Im.selNext s grp acc (m - 1) x (byteAt s jw) j9 := by
    obtain ⟨m, rfl⟩ := sU m
    rw [Im.selGo]
    simp only []
    rw [hjw, if_neg om, if_pos (of_decide_eq_true hbd.symm), hj9]; rfl
   exact cT [(0, pP p), (4, vx), (6, .int .u8 (byteAt s jw : Int))] rfl ⟨_, _, rfl, hp, hG, hrx, .inr ⟨by have := of_decide_eq_true hbd.symm; omega, byteAt_lt s _, hn, om⟩, om, om⟩
  try simp only [Bool.not_eq_true', Bool.not_eq_false'] at h8
  subst h8
  refine qqr<|qq (R.eqI rfl rfl) rfl<|pr 1 rfl<|ns<|cD rfl (fun h10 => ?_) fun h10 => ?_
  ·have h10i := h10
   try norm_cast at h10
   rw [decide_eq_true h10i]
   refine ks<|cV rfl<|qr<|pr 3 rfl<|nst<|rC<|rH<|rC<|rH<|rC<|At.res2 rfl rfl rfl ?_
   have hX : Im.sel s grp acc i = some (x, jw) := by
    obtain ⟨m, rfl⟩ := sU m
    rw [hA, ← hE, Im.selGo]
    simp only []
    rw [hjw, if_neg om, if_neg (of_decide_eq_false hbd.symm), if_pos om]
   rw [hX]
   exact ⟨_, rfl, hrx, hp, hG⟩
  have h10i := h10
  try norm_cast at h10
  rw [decide_eq_false h10i]
  refine rR<|qq (R.eqI rfl rfl) rfl<|pr 1 rfl<|ns<|cD rfl (fun h11 => ?_) fun h11 => ?_
  ·have h11i := h11
   try norm_cast at h11
   rw [decide_eq_true h11i]
   refine qr<|pr 3 rfl<|nst<|rC<|rH<|rC<|rH<|rC<|At.res2 rfl rfl rfl ?_
   have hX : Im.sel s grp acc i = some (x, jw) := by
    obtain ⟨m, rfl⟩ := sU m
    rw [hA, ← hE, Im.selGo]
    simp only []
    rw [hjw, if_neg om, if_neg (of_decide_eq_false hbd.symm), if_pos om]
   rw [hX]
   exact ⟨_, rfl, hrx, hp, hG⟩
  have h11i := h11
  try norm_cast at h11
  rw [decide_eq_false h11i]
  refine rK<|rB ?_
  have hn : c6 = 0 ∧ Im.selGo s grp acc m x j = some (x, jw) ∨ ¬ c6 = 0 ∧ c6 < 256 ∧ Im.selGo s grp acc m x j = Im.selNext s grp acc (m - 1) x c6 jw ∧ j + 1 ≤ jw := by
   obtain ⟨m, rfl⟩ := sU m
   rw [Im.selGo]
   simp only []
   by_cases hq : j < jw
   ·rw [if_pos hq] at hc6
    subst hc6
    refine .inr ⟨by decide, by decide, ?_, om⟩
    rw [hjw, if_neg om, if_neg (of_decide_eq_false hbd.symm), if_neg om, if_pos hq]; rfl
   rw [if_neg hq] at hc6
   refine .inl ⟨hc6, ?_⟩
   rw [hjw, if_neg om, if_neg (of_decide_eq_false hbd.symm), if_neg om, if_neg hq]
  exact cT [(0, pP p), (4, vx), (6, .int .u8 (c6 : Int))] rfl ⟨_, _, rfl, hp, hG, hrx, hn, om, om⟩
 rintro l w ⟨c, jj, rfl, hp, hG, hrx, hn, hjj1, hjj2⟩
 refine qqr<|pr 1 rfl<|qq (R.eqI rfl rfl) rfl<|ns<|cD rfl (fun h12 => ?_) fun h12 => ?_
 ·try norm_cast at h12
  refine qr<|pr 3 rfl<|nsth<|rC<|rH<|rC ?_
  have hn := hn.resolve_right (fun hq => hq.1 aM)
  refine At.res2 rfl rfl rfl ?_
  have hX : Im.sel s grp acc i = some (x, jj) := by
   rw [hA, ← hE, hn.2]
  rw [hX]
  exact ⟨_, rfl, hrx, hp, hG⟩
 try norm_cast at h12
 refine ksq ?_
 have hn := hn.resolve_left (fun hq => (by assumption : ¬ c = 0) hq.1)
 refine rR<|pr 1 rfl<|eN en39 rfl (seq_calls p s jj d acc _ hp hb om (hrng.gr hG) om grp (GrpW.up hgw om) (hgrp.up om)) fun v w hv => ?_
 rcases hM13 : Im.seq s grp acc jj with _ | ⟨x13, j13⟩
 ·rw [hM13] at hv
  obtain ⟨rr13, ee13, j13, rfl, ⟨et13, eu13, rfl⟩, hpo, hv⟩ := hv
  clear hp
  have hp := hpo
  clear hpo
  have hG := hG.trans hv
  have hrx := hrx.gr hv au
  refine pr 5 rfl<|nsq<|qr<|pr 1 rfl<|qq (R.neNilT ifc44 rfl) rfl<|ns<|cV rfl<|qr<|pr 3 rfl<|nsth<|rC<|rH<|rC<|At.res2 rfl rfl rfl ?_
  have hX : Im.sel s grp acc i = none := by
   rw [hA, ← hE, hn.2.2.1, Im.selNext, hM13]
  rw [hX]
  exact ⟨_, _, _, rfl, ⟨_, _, rfl⟩, hp, hG⟩
 rw [hM13] at hv
 obtain ⟨vy, rfl, hry, hpo, hv⟩ := hv
 have hry := hry.base hG.size
 clear hp
 have hp := hpo
 clear hpo
 have hG := hG.trans hv
 have hrx := hrx.gr hv au
 obtain ⟨hea13, heb13, -, -⟩ := Im.seq_law (GrpW.up hgw om) hM13
 refine pr 5 rfl<|nsq<|qr<|pr 1 rfl<|qq (R.neNilF ifc44 rfl) rfl<|ns<|cF rfl<|ks ?_
 obtain ⟨ta, ua, rfl⟩ := hrx.ifc
 obtain ⟨tb, ub, rfl⟩ := hry.ifc
 refine rR<|pr 3 rfl<|qq (R.build (vs := [.iface ta ua, .int .u8 (c : Int), .iface tb ub]) (ps := [(0, .iface ta ua), (1, .int .u8 (c : Int)), (2, .iface tb ub)]) (fun a ha => by simp [ha.ev (x := .tmp 77) rfl, ha.ev (x := .tmp 78) rfl, ha.ev (x := .tmp 79) rfl]) (b81 _ _ _ _ _)) rfl<|qq (R.mkI rfl mi81) rfl<|pr 1 rfl<|nB ?_
 rw [hn.2.2.1, Im.selNext, hM13] at hE
 simp only [] at hE
 exact cT [(0, pP p), (4, _)] rfl ⟨m - 1, om, _, _, j13, rfl, hp, hG, (by rw [Rep]; exact ⟨_, _, rfl, hrx, hry⟩), hE, om, om, om⟩
end Go.Proofs.YtogfnbkccfkpoaaGreatDoor
namespace Go.Proofs.YtogfnbkccfkpoaaGreatDoor
open Go Go.RowKit
section
namespace Eng
section
variable {P : Program} {n : Nat} {l : Fr} {w : World} {fn : Func} {R : Value → World → Prop}
theorem CR.ofD {f : FuncId} {c : Code} {args : List Value} (l : Fr) (hf : P.funcs[f]? = some fn) (hb : fn.body = some c) (hn : fn.ntmps = n) (hle : Nat.ble args.length n = true) (hl : argsOk args l)
 (h : C P c (bodyPostD P fn fun e w' => ∃ v, e = .returned v ∧ R v w') n l w) : CR P f args w R := by
 refine calls_of_wp_defers hf hb (h _ ⟨?_, rfl, ?_⟩)
 ·have : args.length ≤ n := by simpa using hle
  simp [hn]; omega
 intro t v ht
 have h1 := hl.spec t v ht
 have h2 : t < args.length := by
  rcases Nat.lt_or_ge t args.length with h | h
  ·exact h
  rw [List.getElem?_eq_none h] at h1; cases h1
 rw [List.getElem?_eq_getElem h2] at h1
 simpa [Array.getElem?_append, h2] using h1
theorem CRD.of {f : FuncId} {c : Code} {args : List Value} {u : FrameMode} (l : Fr) (hf : P.funcs[f]? = some fn) (hb : fn.body = some c) (hn : fn.ntmps = n) (hle : Nat.ble args.length n = true) (hl : argsOk args l)
 (h : C P c (bodyPost P fn fun e w' => ∃ v, e = .returned v ∧ R v w') n l w) : CallsD P f args.toArray u w fun e u' w' => u' = u ∧ ∃ v, e = .returned v ∧ R v w' := by
 refine callsD_of_wp hf hb (h _ ⟨?_, rfl, ?_⟩)
 ·have : args.length ≤ n := by simpa using hle
  simp [hn]; omega
 intro t v ht
 have h1 := hl.spec t v ht
 have h2 : t < args.length := by
  rcases Nat.lt_or_ge t args.length with h | h
  ·exact h
  rw [List.getElem?_eq_none h] at h1; cases h1
 rw [List.getElem?_eq_getElem h2] at h1
 simpa [Array.getElem?_append, h2] using h1
theorem At.resDD {t u : Nat} {v u' : Value} {f : FuncId} {cap : Array Value} {S : World → Prop} (hres : fn.results = #[.tmp t, .tmp u]) (hv : look l t = some v) (hu : look l u = some u')
 (hi : ∀ w : World, (invoke (.fn (.func f) cap) #[]).run P w = .ok (.enter f cap) w)
 (hc : CallsD P f cap .returning w fun e m w' => m = .returning ∧ ∃ r, e = .returned r ∧ S w') (h : ∀ w', S w' → R (.tuple #[v, u']) w') : @At ⟨[⟨.fn (.func f) cap, #[]⟩]⟩ (bodyPostD P fn fun e w' => ∃ v, e = .returned v ∧ R v w') .ret n l w := by
 letI : Df := ⟨[⟨.fn (.func f) cap, #[]⟩]⟩
 intro a ha
 have h1 := ha.ev (x := .tmp t) hv
 have h2 := ha.ev (x := .tmp u) hu
 simp only [Act.eval] at h1 h2
 show Leaves P fn a.tmps _ a.defers .returning w
 rw [ha.2.1]
 refine leaves_cons (by simp) (hi w) (hc.mono ?_)
 rintro e m w' ⟨rfl, r, rfl, hs⟩
 exact ⟨_, results_tmp2 hres _ _ _, _, by rw [h1, h2], h w' hs⟩
section
variable [Df] {dst : Option Nat} {ty : TypeId} {pos : String} {af : Array Edge} {g : Option (Nat × Bool)} {x : Operand} {v : Value} {f : FuncId}
theorem R.mkFn (hx : ev l x = some v) : Runs P n l ⟨dst, .makeFunc (.func f) #[] #[x], ty, pos, af, g⟩ w (.value (.func (.func f) #[] #[v])) w := fun a ha => by
 simp only [execOp, List.map_toArray, List.map_cons, List.map_nil, ha.ev hx]
 rfl
end
theorem R.callD [Df] {P : Program} {n : Nat} {l : Fr} {w : World} {dst : Option Nat} {ty : TypeId} {pos : String} {af : Array Edge} {g : Option (Nat × Bool)} {f : FuncId} {args : List Operand} {vs : List Value} {tys : Array TypeId}
 (h : enters P f = true) (ha : evL l args = some vs) : Runs P n l ⟨dst, .call ⟨.value (.func f), args.toArray, tys⟩, ty, pos, af, g⟩ w (.enter f vs.toArray) w := fun a hon => by
 have := hon.evL ha
 simp [execOp, resolve, Deferred.ofValue, invoke, Act.eval, this, enters.run h]
theorem W.defer1 {Q : Post} {ops : Array Oper} {rest : List Oper} {ty : TypeId} {pos : String} {af : Array Edge} {x : Operand} {f : FuncId} {cap : Array Value} {ats : Array TypeId} (hx : ev l x = some (.func (.func f) #[] cap)) (h : @W ⟨[⟨.fn (.func f) cap, #[]⟩]⟩ P ops Q n rest l w) : W P ops Q n (⟨none, .defer ⟨.value x, #[], ats⟩, ty, pos, af, none⟩ :: rest) l w := by
 intro a ha
 refine wpList_plain rfl fun K hK => ?_
 unfold Oper.wp execOp
 simp only [resolve, Deferred.ofValue, ha.ev hx, Sem.run_bind, Sem.run_pure, Result.andThen_ok, Array.map_empty, Array.append_empty]
 exact hK _ _ (h _ ⟨ha.1, congrArg (List.cons _) ha.2.1, ha.2.2⟩)
end
end Eng
open Eng
theorem row42 (t : TypeId) (u : Value) : rowOf PR 42 1 [(0, .iface t u)] = some (48, [.iface t u]) := by kernel_rfl
theorem SLG.neB {base tb e : Nat} {w : World} {l : List IS} {vl : Value} {cs : List Value} (h : SLG base w l vl) (hT : Blk w tb e cs) (he : e ≠ 48) : some tb ≠ vl.ownBlock := by
 obtain ⟨vs, h1, -⟩ := h
 rcases h1.2 with ⟨rfl, -⟩ | ⟨g, cap, cur, rfl, -, hg, -⟩
 ·simp [Value.ownBlock]
 intro e'
 simp only [Value.ownBlock, Option.some.injEq] at e'
 subst e'
 unfold Blk at hT
 rw [hg] at hT
 simp only [Option.some.injEq, Obj.cells.injEq] at hT
 exact he hT.2.1.symm
theorem sc61 : scalar PR 61 = true := by kernel_rfl
theorem undeep_calls (p tb : Nat) (s : List UInt8) (i d : Nat) (acc : Bool) (w0 : World) (hT : Blk w0 tb 61 [pP p]) (hp : PD p s i (d + 1) acc w0) (hd : d ≤ 1000) :
 CallsD PR 30 #[pP tb] .returning w0 fun e m w' => m = .returning ∧ ∃ r, e = .returned r ∧ (PD p s i d acc w' ∧ Gr w0 w' (some p)) := by
 have htp : p ≠ tb := by
  intro e; subst e; unfold PD Blk at *; rw [hp] at hT; simp only [Option.some.injEq, Obj.cells.injEq] at hT; exact absurd hT.2.1 dC
 have hG : Gr w0 w0 (some p) := Gr.refl _ _
 refine CRD.of (n := 8) [(0, pP tb)] Tryz.func30 rfl Tryz.ntmps30 rfl ⟨rfl, trivial⟩<|rR<|lD sc61 hT rfl rfl<|pr 1 rfl<|fA fo63_2 rfl<|lD sc3 hp rfl rfl<|qq (R.subN 1 rfl rfl om om) rfl<|pr 1 rfl<|fA fo63_2 rfl<|sT sc3 hp rfl fun w hp hs => ?_
 have hT := hT.gr hs au
 have hp : Blk _ p 63 [str s, .int .i64 ((i : Nat) : Int), .int .i64 ((d + 1 - 1 : Nat) : Int), .bool acc] := hp
 have hG := hG.trans hs
 exact rN<|At.res0 rfl ⟨hp, hG⟩
theorem groupI_calls (p : Nat) (s : List UInt8) (i d : Nat) (acc : Bool) (w0 : World) (hp : PD p s i d acc w0) (hb : s.length ≤ 1000) (hi : i ≤ s.length) (hrng : RNG p w0) (hd : d ≤ i) (grp : Nat → Option (List IS × Nat)) (hgw : Im.GrpW s grp (i + 1)) (hgrp : GrpI p s acc grp (i + 1)) :
 CR PR 20 [pP p] w0 fun v w' => PGrp p s d acc w0 (Im.groupW s grp acc i) v w' := by
 have hpl := hp.lt
 have hG : Gr w0 w0 (some p) := Gr.refl _ _
 refine CR.ofD (n := 73) [(0, pP p)] Tryz.func20 rfl Tryz.ntmps20 rfl ⟨rfl, trivial⟩<|qr<|W.box (vs := [pP p]) rfl rfl rfl fun w tb htz hT hv => ?_
 have hp := hp.grN hv
 have hG := hG.trans (hv.no _)
 refine pr 2 rfl<|nsq<|qr<|lD sc61 hT rfl rfl<|pr 1 rfl<|fA fo63_2 rfl<|lD sc3 hp rfl rfl<|qq (R.gtI rfl rfl) rfl<|ns<|cD rfl (fun h1 => ?_) fun h1 => ?_
 ·all_goals (exfalso; omega)
 refine ksqr<|lD sc61 hT rfl rfl<|pr 1 rfl<|fA fo63_2 rfl<|lD sc3 hp rfl rfl<|aK rfl rfl<|pr 1 rfl<|fA fo63_2 rfl<|sT sc3 hp rfl fun w hp hs => ?_
 have hT := hT.gr hs au
 have hp : Blk _ p 63 [str s, .int .i64 ((i : Nat) : Int), .int .i64 ((d + 1 : Nat) : Int), .bool acc] := hp
 have hG := hG.trans hs
 refine nsqr<|qq (R.mkFn rfl) rfl ?_
 letI : Df := ⟨[⟨.fn (.func 30) #[pP tb], #[]⟩]⟩
 refine W.defer1 rfl<|nsqr<|lD sc61 hT rfl rfl<|W.enter (R.callD en31 rfl) rfl rfl rfl (sel_calls p s i (d + 1) acc _ hp hb om (hrng.gr hG) om grp (GrpW.up hgw om) (hgrp.up om)) fun v w hv => ?_
 rcases hM2 : Im.sel s grp acc i with _ | ⟨x2, j2⟩
 ·rw [hM2] at hv
  obtain ⟨rr2, ee2, j2, rfl, ⟨et2, eu2, rfl⟩, hpo, hv⟩ := hv
  clear hp
  have hp := hpo
  clear hpo
  have hG := hG.trans hv
  have hT := hT.gr hv au
  refine pr 5 rfl<|nsq<|qr<|pr 1 rfl<|qq (R.neNilT ifc44 rfl) rfl<|ns<|cV rfl<|qr<|pr 3 rfl<|nsth<|At.resDD rfl rfl rfl (fun w => by simp [invoke, callFunc]; rfl) (undeep_calls p tb s j2 d acc w hT hp om) ?_
  rintro w ⟨hpo, hv⟩
  clear hp
  have hp := hpo
  have hG := hG.trans hv
  have hX : Im.groupW s grp acc i = none := by rw [Im.groupW, hM2]
  rw [hX]
  exact ⟨_, _, _, rfl, ⟨_, _, rfl⟩, hp, hG⟩
 rw [hM2] at hv
 obtain ⟨vx, rfl, hrx, hpo, hv⟩ := hv
 have hrx := hrx.base hG.size
 clear hp
 have hp := hpo
 clear hpo
 have hG := hG.trans hv
 obtain ⟨hea2, heb2, -, -⟩ := Im.sel_law (GrpW.up hgw om) om hM2
 have hT := hT.gr hv au
 refine pr 5 rfl<|nsq<|qr<|pr 1 rfl<|qq (R.neNilF ifc44 rfl) rfl<|ns<|cF rfl<|ksqr<|pr 1 rfl ?_
 obtain ⟨ta, ua, rfl⟩ := hrx.ifc
 have hsz := hG.size
 refine W.buildSlice (ps := [(0, .iface ta ua)]) (fun a ha => by simp [ha.ev (x := .tmp 31) rfl]) (row42 _ _) rfl fun w kb hkz hB hv => ?_
 have hS := SLG.one hrx hkz hB hv hsz
 have hp := hp.grN hv
 have hG := hG.trans (hv.no _)
 have hT := hT.grN hv
 refine pr 1 rfl<|ns<|C.cut (fun l w' => ∃ (vl : Value) (xs : List IS) (j : Nat), l = [(1, pP tb), (6, vl)] ∧ PD p s j (d + 1) acc w' ∧ Gr w0 w' (some p) ∧ Blk w' tb 61 [pP p] ∧ SLG w0.heap.size w' xs vl ∧ Im.groupW s grp acc i = some (xs, j) ∧ j ≤ s.length) ?_ ?_
 ·refine rO ?_
  have hA : Im.groupW s grp acc i = Im.groupGo s grp acc (s.length + 1) [x2] j2 := by rw [Im.groupW, hM2]
  refine sB [(1, pP tb), (6, .slice (some ⟨kb, 0, none⟩) 1 1)] rfl<|C.loop (fun m l w' => ∃ (vl : Value) (xs : List IS) (j : Nat), l = [(1, pP tb), (6, vl)] ∧ PD p s j (d + 1) acc w' ∧ Gr w0 w' (some p) ∧ Blk w' tb 61 [pP p] ∧ SLG w0.heap.size w' xs vl ∧ Im.groupGo s grp acc m xs j = Im.groupGo s grp acc (s.length + 1) [x2] j2 ∧ s.length < j + m ∧ i ≤ j ∧ j ≤ s.length ∧ xs.length ≤ j + 1) (s.length + 1) (⟨_, [x2], j2, rfl, hp, hG, hT, hS, rfl, om, om, om, by simp only [List.length_cons, List.length_nil]; omega⟩) ?_
  rintro m l w ⟨vl, xs, j, rfl, hp, hG, hT, hS, hE, hm, hij, hjl, hxl⟩
  refine rQ<|rQ<|C.draw (fun w' => Gr _ w' none) mixed kR (Gr.drew _ _)<|lQ sc61 hT rfl rfl<|prq 1 rfl<|fQ fo63_1 rfl<|lQ sc3 hp rfl rfl<|lQ sc61 hT rfl rfl<|prq 1 rfl<|fQ fo63_0 rfl<|lQ sc9 hp rfl rfl<|qw (fun w hw => R.lenS rfl u9) rfl<|qw (fun w hw => R.ltI rfl rfl) rfl<|Wq.nil fun w hw => ?_
  have hp := hp.grN hw
  have hS := hS.grN hw
  have hT := hT.grN hw
  have hG := hG.trans (hw.no _)
  refine rS<|cD rfl (fun h3 => ?_) fun h3 => ?_
  ·refine ks<|rO<|rQ<|rQ<|C.draw (fun w' => Gr _ w' none) mixed kR (Gr.drew _ _)<|lQ sc61 hT rfl rfl<|prq 1 rfl<|fQ fo63_0 rfl<|lQ sc9 hp rfl rfl<|lQ sc61 hT rfl rfl<|prq 1 rfl<|fQ fo63_1 rfl<|lQ sc3 hp rfl rfl<|qw (fun w hw => R.idxS rfl rfl _ rfl om u9) rfl<|qw (fun w hw => R.neI rfl rfl) rfl<|Wq.nil fun w hw => ?_
   have hp := hp.grN hw
   have hS := hS.grN hw
   have hT := hT.grN hw
   have hG := hG.trans (hw.no _)
   refine rS<|cD rfl (fun h4 => ?_) fun h4 => ?_
   ·refine rE<|rX<|At.blockExitNe rfl<|rX<|rY ?_
    have hQ : Im.groupGo s grp acc (s.length + 1) [x2] j2 = some (xs, j) := by
     obtain ⟨m, rfl⟩ := sU m
     rw [← hE, Im.groupGo, if_neg om]
    exact cT [(1, pP tb), (6, vl)] rfl ⟨_, _, _, rfl, hp, hG, hT, hS, by rw [hA]; exact hQ, hjl⟩
   refine ksqr<|lD sc61 hT rfl rfl<|pr 1 rfl<|fA fo63_1 rfl<|lD sc3 hp rfl rfl<|aK rfl rfl<|pr 1 rfl<|fA fo63_1 rfl<|sT sc3 hp rfl fun w hp hs => ?_
   have hS := hS.gr hs au
   have hT := hT.gr hs au
   have hp : Blk _ p 63 [str s, .int .i64 ((j + 1 : Nat) : Int), .int .i64 ((d + 1 : Nat) : Int), .bool acc] := hp
   have hG := hG.trans hs
   refine nsqr<|lD sc61 hT rfl rfl<|W.enter (R.callD en31 rfl) rfl rfl rfl (sel_calls p s (j + 1) (d + 1) acc _ hp hb om (hrng.gr hG) om grp (GrpW.up hgw om) (hgrp.up om)) fun v w hv => ?_
   rcases hM5 : Im.sel s grp acc (j + 1) with _ | ⟨x5, j5⟩
   ·rw [hM5] at hv
    obtain ⟨rr5, ee5, j5, rfl, ⟨et5, eu5, rfl⟩, hpo, hv⟩ := hv
    clear hp
    have hp := hpo
    clear hpo
    have hG := hG.trans hv
    have hS := hS.gr hv au
    have hT := hT.gr hv au
    refine pr 5 rfl<|nsq<|qr<|pr 1 rfl<|qq (R.neNilT ifc44 rfl) rfl<|ns<|cV rfl<|qr<|pr 3 rfl<|nsth<|rC<|rH<|rC<|rH<|At.resDD rfl rfl rfl (fun w => by simp [invoke, callFunc]; rfl) (undeep_calls p tb s j5 d acc w hT hp om) ?_
    rintro w ⟨hpo, hv⟩
    clear hp
    have hp := hpo
    have hG := hG.trans hv
    have hX : Im.groupW s grp acc i = none := by
     obtain ⟨m, rfl⟩ := sU m
     rw [hA, ← hE, Im.groupGo, if_pos ⟨om, om⟩, hM5]
    rw [hX]
    exact ⟨_, _, _, rfl, ⟨_, _, rfl⟩, hp, hG⟩
   rw [hM5] at hv
   obtain ⟨vx, rfl, hrx, hpo, hv⟩ := hv
   have hS0 := hS
   have hsz0 := hG.size
   clear hp
   have hp := hpo
   clear hpo
   have hG := hG.trans hv
   have hS := hS.gr hv au
   have hrx := Rep.apart hS0 hsz0 hrx
   obtain ⟨hea5, heb5, -, -⟩ := Im.sel_law (GrpW.up hgw om) om hM5
   have hT := hT.gr hv au
   refine pr 5 rfl<|nsq<|qr<|pr 1 rfl<|qq (R.neNilF ifc44 rfl) rfl<|ns<|cF rfl<|ks<|rR<|pr 2 rfl ?_
   obtain ⟨ta, ua, rfl⟩ := hrx.ifc
   refine W.buildSlice (ps := [(0, .iface ta ua)]) (fun a ha => by simp [ha.ev (x := .tmp 69) rfl]) (row42 _ _) rfl fun w kb hkz hB hv => ?_
   have hp := hp.grN hv
   have hG := hG.trans (hv.no _)
   have hT := hT.grN hv
   have hS := hS.grN hv
   have hrx := hrx.grN hv
   have hS0 := hS
   refine W.appendSel (X := x5) el42 hS rfl rfl hB hrx om hG.size rfl fun vl w hS hv => ?_
   have hp := hp.gr hv (hS0.ne hpl)
   have hT := hT.gr hv (hS0.neB hT dC)
   have hG := hS0.own hG hv
   refine pr 1 rfl<|nB ?_
   obtain ⟨m, rfl⟩ := sU m
   rw [Im.groupGo, if_pos ⟨om, om⟩, hM5] at hE
   simp only [] at hE
   exact cT [(1, pP tb), (6, vl)] rfl ⟨m, om, vl, xs ++ [x5], j5, rfl, hp, hG, hT, hS, hE, om, om, om, by simp only [List.length_append, List.length_cons, List.length_nil]; omega⟩
  refine rE<|rX<|rX<|rY ?_
  have hQ : Im.groupGo s grp acc (s.length + 1) [x2] j2 = some (xs, j) := by
   obtain ⟨m, rfl⟩ := sU m
   rw [← hE, Im.groupGo, if_neg om]
  exact cT [(1, pP tb), (6, vl)] rfl ⟨_, _, _, rfl, hp, hG, hT, hS, by rw [hA]; exact hQ, hjl⟩
 rintro l w ⟨vl, xs, j, rfl, hp, hG, hT, hS, hQ, hjl⟩
 refine qr<|pr 3 rfl<|nst<|At.resDD rfl rfl rfl (fun w => by simp [invoke, callFunc]; rfl) (undeep_calls p tb s j d acc w hT hp om) ?_
 rintro w ⟨hpo, hv⟩
 clear hp
 have hp := hpo
 have hG := hG.trans hv
 have hS := hS.gr hv au
 rw [hQ]
 exact ⟨_, rfl, hS, hp, hG⟩
theorem group_all (p : Nat) (s : List UInt8) (acc : Bool) (hb : s.length ≤ 1000) : ∀ (k lo : Nat), s.length < lo + k → GrpI p s acc (Im.group s acc k) lo
 | 0, lo, h => by intro j d w h1 h2; omega
 | k + 1, lo, h => by
  intro j d w h1 h2 hd hp hrng
  rw [Im.group]
  exact groupI_calls p s j d acc w hp hb h2 hrng hd (Im.group s acc k) (Im.group_law s acc k _) (group_all p s acc hb k (j + 1) om)
def PTop (w0 : World) : Option (List IS) → Value → World → Prop
 | none, v, w' => ∃ r e, v = .tuple #[r, e] ∧ ErrV e ∧ Gr w0 w' none
 | some l, v, w' => ∃ vl, v = .tuple #[vl, .nilIface] ∧ SLG w0.heap.size w' l vl ∧ Gr w0 w' none
theorem RNG.start {p : Nat} {w w' : World} (h : RNG w.heap.size w) (hp : p = w.heap.size) (g : Gr w w' none) : RNG p w' := by
 subst hp; exact h.gr (g.no _)
theorem parse_calls (s : List UInt8) (w0 : World) (hb : s.length ≤ 1000) (hrng : RNG w0.heap.size w0) :
 CR PR 12 [str s] w0 fun v w' => PTop w0 (Im.parsed s) v w' := by
 have hG : Gr w0 w0 none := Gr.refl _ _
 refine CR.of (n := 27) [(0, str s)] Tryz.func12 rfl Tryz.ntmps12 rfl ⟨rfl, trivial⟩<|qr<|pr 2 rfl<|nsqr<|pr 1 rfl<|qq (R.build (vs := [str s, .int .i64 ((0 : Nat) : Int), .int .i64 ((0 : Nat) : Int), .bool true]) (ps := [(0, str s), (3, .bool true)]) (fun a ha => by simp [ha.ev (x := .tmp 7) rfl]; rfl) kR) rfl<|W.box (vs := [str s, .int .i64 ((0 : Nat) : Int), .int .i64 ((0 : Nat) : Int), .bool true]) rfl rfl rfl fun w p hpz hp hv => ?_
 have hG1 := hG.trans hv
 have hG := Gr.refl w (some p)
 have hrng : RNG p w := hrng.start hpz hv
 refine pr 1 rfl<|nsqr<|pr 1 rfl<|eN en20 rfl (group_all p s true hb (s.length + 2) 0 om 0 0 _ om om om hp hrng) fun v w hv => ?_
 rcases hM1 : Im.group s true (s.length + 2) 0 with _ | ⟨l1, j1⟩
 ·rw [hM1] at hv
  obtain ⟨rr1, ee1, j1, rfl, ⟨et1, eu1, rfl⟩, hpo, hv⟩ := hv
  clear hp
  have hp := hpo
  clear hpo
  have hG := hG.trans hv
  refine pr 5 rfl<|nsq<|qr<|pr 1 rfl<|qq (R.neNilT ifc44 rfl) rfl<|ns<|cV rfl<|qr<|pr 3 rfl<|nsth<|At.res2 rfl rfl rfl ?_
  have hGZ := hG1.fresh hG om
  have hX : Im.parsed s = none := by rw [Im.parsed, hM1]
  rw [hX]
  exact ⟨_, _, rfl, ⟨_, _, rfl⟩, hGZ⟩
 rw [hM1] at hv
 obtain ⟨vl, rfl, hS, hpo, hv⟩ := hv
 clear hp
 have hp := hpo
 clear hpo
 have hG := hG.trans hv
 obtain ⟨hea1, heb1, -, -⟩ := Im.group_law s true _ 0 _ _ _ om om hM1
 refine pr 5 rfl<|nsq<|qr<|pr 1 rfl<|qq (R.neNilF ifc44 rfl) rfl<|ns<|cF rfl<|ksq<|qr<|pr 2 rfl<|fA fo63_1 rfl<|lD sc3 hp rfl rfl<|pr 1 rfl<|qq (R.lenS rfl u9) rfl<|qq (R.ltI rfl rfl) rfl<|ns<|cD rfl (fun h2 => ?_) fun h2 => ?_
 ·refine qr<|eN en21 rfl (errNew_calls _ _) fun v w hv => ?_
  obtain ⟨⟨et, eu, rfl⟩, hv⟩ := hv
  have hp := hp.grN hv
  have hG := hG.trans (hv.no _)
  refine pr 2 rfl<|nsth<|At.res2 rfl rfl rfl ?_
  have hGZ := hG1.fresh hG om
  have hX : Im.parsed s = none := by rw [Im.parsed, hM1]; exact if_pos om
  rw [hX]
  exact ⟨_, _, rfl, ⟨_, _, rfl⟩, hGZ⟩
 refine ksqr<|pr 3 rfl<|nst<|At.res2 rfl rfl rfl ?_
 have hGZ := hG1.fresh hG om
 have hX : Im.parsed s = some l1 := by rw [Im.parsed, hM1]; exact if_neg om
 rw [hX]
 refine ⟨vl, rfl, SLG.mono hS hG1.size, hGZ⟩
end
end Go.Proofs.YtogfnbkccfkpoaaGreatDoor
set_option linter.unusedSectionVars false
namespace Go.Proofs.YtogfnbkccfkpoaaGreatDoor
open Go Go.RowKit
open Eng
def MCs (name : String) (v : Value) (Cl : World → Prop) (R : World → Value → World → Prop) : Prop := ∃ f recv, (∀ w : World, (callMethod v name #[]).run PR w = .ok (.enter f #[recv]) w) ∧ ∀ w, Cl w → CR PR f [recv] w (R w)
namespace Eng
section
variable [Df] {Q : Post} {ops : Array Oper} {rest : List Oper} {n : Nat} {l : Fr} {w : World} {d : Nat} {ty : TypeId} {pos : String} {af : Array Edge} {x : Operand} {tys : Array TypeId} {v r : Value} {name : String} {Cl : World → Prop} {RR : World → Value → World → Prop}
theorem R.callM {dst : Option Nat} {g : Option (Nat × Bool)} {f : FuncId} {recv : Value} (hx : ev l x = some v) (h : (callMethod v name #[]).run PR w = .ok (.enter f #[recv]) w) : Runs PR n l ⟨dst, .call ⟨.invoke x name, #[], tys⟩, ty, pos, af, g⟩ w (.enter f [recv].toArray) w := fun a ha => by
 simp only [execOp, resolve, invoke, ha.ev hx, Sem.run_bind, Sem.run_pure, Result.andThen_ok]
 simpa using h
theorem W.callM (hx : ev l x = some v) (hm : MCs name v Cl RR) (hcl : Cl w) (hdn : Nat.blt d n = true) (h : ∀ u w'', RR w u w'' → W PR ops Q n rest ((d, u) :: l) w'') : W PR ops Q n (⟨some d, .call ⟨.invoke x name, #[], tys⟩, ty, pos, af, none⟩ :: rest) l w := by
 obtain ⟨f, recv, h1, h2⟩ := hm
 exact W.enter (R.callM hx (h1 w)) rfl rfl hdn (h2 w hcl) h
theorem Wq.callM {Q : Act → Prop} {Cq : World → Prop} (hx : ev l x = some v) (hm : MCs name v Cl RR) (hcl : ∀ w, Cq w → Cl w) (hR : ∀ w u w', Cq w → RR w u w' → u = r ∧ Cq w') (hdn : Nat.blt d n = true) (h : Wq PR ops Cq Q n rest ((d, r) :: l)) : Wq PR ops Cq Q n (⟨some d, .call ⟨.invoke x name, #[], tys⟩, ty, pos, af, none⟩ :: rest) l := by
 obtain ⟨f, recv, h1, h2⟩ := hm
 exact Wq.enter (fun w hw => R.callM hx (h1 w)) rfl rfl hdn (fun w hw => (h2 w (hcl w hw)).mono fun u w' hr => hR w u w' hw hr) h
end
end Eng
mutual
def IS.spec : IS → Tr
 | .tag _ => ⟨0, 0, 1⟩
 | .idt _ => ⟨1, 0, 0⟩
 | .rel _ g => IS.specMax Tr.zero g
 | .never _ => Tr.zero
 | .comp l pe => if pe = [] then IS.specSum Tr.zero l else (IS.specSum Tr.zero l).add ⟨0, 0, 1⟩
 | .comb a _ b => a.spec.add b.spec
 | _ => ⟨0, 1, 0⟩
def IS.specSum (acc : Tr) : List IS → Tr
 | [] => acc
 | x :: r => IS.specSum (acc.add x.spec) r
def IS.specMax (acc : Tr) : List IS → Tr
 | [] => acc
 | x :: r => IS.specMax (if acc.less x.spec then x.spec else acc) r
end
def IS.pel : IS → List UInt8
 | .comp _ pe => pe
 | .comb _ _ b => b.pel
 | _ => []
def Tr.Le (t : Tr) (n : Nat) : Prop := t.a ≤ n ∧ t.b ≤ n ∧ t.c ≤ n
theorem Tr.Le.add {x y : Tr} {n m : Nat} (h : x.Le n) (k : y.Le m) : (x.add y).Le (n + m) := by
 unfold Tr.Le Tr.add at *; simp only; omega
theorem Tr.Le.mono {x : Tr} {n m : Nat} (h : x.Le n) (k : n ≤ m) : x.Le m := by unfold Tr.Le at *; omega
mutual
theorem IS.spec_le : ∀ (x : IS), x.spec.Le (x.wt + 1)
 | .tag _ => by simp only [IS.spec, IS.wt]; unfold Tr.Le; simp only; omega
 | .idt _ => by simp only [IS.spec, IS.wt]; unfold Tr.Le; simp only; omega
 | .cls _ => by simp only [IS.spec, IS.wt]; unfold Tr.Le; simp only; omega
 | .attr _ _ _ _ => by simp only [IS.spec, IS.wt]; unfold Tr.Le; simp only; omega
 | .contains _ _ => by simp only [IS.spec, IS.wt]; unfold Tr.Le; simp only; omega
 | .nth _ _ _ _ => by simp only [IS.spec, IS.wt]; unfold Tr.Le; simp only; omega
 | .only _ => by simp only [IS.spec, IS.wt]; unfold Tr.Le; simp only; omega
 | .flat _ => by simp only [IS.spec, IS.wt]; unfold Tr.Le; simp only; omega
 | .lang _ => by simp only [IS.spec, IS.wt]; unfold Tr.Le; simp only; omega
 | .never _ => by simp only [IS.spec, IS.wt]; unfold Tr.Le Tr.zero; simp only; omega
 | .rel nm g => by
  rw [IS.spec, IS.wt]
  exact (IS.specMax_le g Tr.zero 0 (by unfold Tr.Le Tr.zero; simp)).mono om
 | .comp l pe => by
  rw [IS.spec, IS.wt]
  have h := IS.specSum_le l Tr.zero 0 (by unfold Tr.Le Tr.zero; simp)
  split
  ·exact h.mono om
  exact (h.add (m := 1) (by unfold Tr.Le; simp)).mono om
 | .comb a _ b => by
  rw [IS.spec, IS.wt]
  exact ((IS.spec_le a).add (IS.spec_le b)).mono om
theorem IS.specSum_le : ∀ (l : List IS) (acc : Tr) (n : Nat), acc.Le n → (IS.specSum acc l).Le (n + IS.wtL l)
 | [], acc, n, h => by rw [IS.specSum]; exact h
 | x :: r, acc, n, h => by
  rw [IS.specSum, IS.wtL]
  exact (IS.specSum_le r _ _ (h.add (IS.spec_le x))).mono om
theorem IS.specMax_le : ∀ (l : List IS) (acc : Tr) (n : Nat), acc.Le n → (IS.specMax acc l).Le (n + IS.wtL l)
 | [], acc, n, h => by rw [IS.specMax]; exact h
 | x :: r, acc, n, h => by
  rw [IS.specMax, IS.wtL]
  have hx := IS.spec_le x
  refine (IS.specMax_le r _ (n + x.wt + 1) ?_).mono om
  split
  ·exact hx.mono om
  exact h.mono om
end
theorem ag50 : aggSize PR 50 = some 3 := by kernel_rfl
theorem z50 : zeroCellsOf PR 50 = some Tr.zero.cells := by kernel_rfl
theorem ar50 : arElem PR 50 = some (3, 1) := by kernel_rfl
def SpecOk (x : IS) : Prop := ∀ (F : Nat → Prop) (v : Value) (w : World), Rep F w x v → MCs "Specificity" v (fun w => Rep F w x v) fun w u w' => u = .agg x.spec.cells.toArray ∧ Gr w w' none
def PelOk (x : IS) : Prop := ∀ (F : Nat → Prop) (v : Value) (w : World), Rep F w x v → MCs "PseudoElement" v (fun w => Rep F w x v) fun w u w' => u = str x.pel ∧ Gr w w' none
theorem IS.wt_mem : ∀ {l : List IS} {x : IS}, x ∈ l → x.wt + 2 ≤ IS.wtL l
 | y :: r, x, h => by
  rw [IS.wtL]
  rcases List.mem_cons.1 h with rfl | h
  ·omega
  have := IS.wt_mem h; omega
theorem SlF.get {F : Nat → Prop} {w : World} {vl : Value} {vs : List Value} {l : List IS} (h : SlF F w vl vs) (hr : RepL F w l vs) (i : Nat) (x : IS) (hx : l[i]? = some x) : ∃ b c v, vl = .slice (some ⟨b, 0, none⟩) l.length c ∧ w.cell? ⟨b, 0 + i * 1, none⟩ = some v ∧ Rep F w x v := by
 obtain ⟨v, hv, hrv⟩ := hr.get i x hx
 have hlen := hr.length
 have hi : i < l.length := (List.getElem?_eq_some_iff.1 hx).1
 rcases h.1.2 with ⟨-, h0⟩ | ⟨g, cap, cur, rfl, -⟩
 ·omega
 refine ⟨g, cap, v, by rw [hlen], ?_, hrv⟩
 have := h.1.cells (g := g) rfl i v hv
 rw [addr_add] at this
 simpa using this
theorem SlF.any {F : Nat → Prop} {w : World} {vl : Value} {vs : List Value} {l : List IS} (h : SlF F w vl vs) (hr : RepL F w l vs) : ∃ a c, vl = .slice a l.length c := by
 have := own_any h.1
 rwa [hr.length] at this
theorem SlF.gr {F : Nat → Prop} {w w' : World} {vl : Value} {vs : List Value} {l : List IS} {r : Option Nat} (h : SlF F w vl vs) (hr : RepL F w l vs) (g : Gr w w' r) (hn : ∀ k, r = some k → w.heap.size ≤ k) : SlF F w' vl vs ∧ RepL F w' l vs :=
 ⟨h.mono g (fun k _ hk e => by have := hn k e; omega) (fun k hk _ => hk), RepL.mono g (fun k _ hk e => by have := hn k e; omega) (fun k hk _ => hk) l vs hr⟩
def SLs (F : Nat → Prop) (w : World) (l : List IS) (vl : Value) : Prop := ∃ vs, SlF F w vl vs ∧ RepL F w l vs
theorem SLs.get {F : Nat → Prop} {w : World} {l : List IS} {vl : Value} (h : SLs F w l vl) (i : Nat) (x : IS) (hx : l[i]? = some x) : ∃ b c v, vl = .slice (some ⟨b, 0, none⟩) l.length c ∧ w.cell? ⟨b, 0 + i * 1, none⟩ = some v ∧ Rep F w x v := by
 obtain ⟨vs, h1, h2⟩ := h; exact h1.get h2 i x hx
theorem SLs.any {F : Nat → Prop} {w : World} {l : List IS} {vl : Value} (h : SLs F w l vl) : ∃ a c, vl = .slice a l.length c := by
 obtain ⟨vs, h1, h2⟩ := h; exact h1.any h2
def Bel (base : Nat) (k : Nat) : Prop := k < base
theorem SLs.gr {B : Nat} {w w' : World} {l : List IS} {vl : Value} {r : Option Nat} (h : SLs (Bel B) w l vl) (g : Gr w w' r) (hr : ∀ k, r = some k → B ≤ k) : SLs (Bel B) w' l vl := by
 obtain ⟨vs, h1, h2⟩ := h
 exact ⟨vs, h1.mono g (fun k hk _ e => by have := hr k e; unfold Bel at hk; omega) (fun k hk _ => hk), RepL.mono g (fun k hk _ e => by have := hr k e; unfold Bel at hk; omega) (fun k hk _ => hk) l vs h2⟩
theorem SLs.grN {F : Nat → Prop} {w w' : World} {l : List IS} {vl : Value} (h : SLs F w l vl) (g : Gr w w' none) : SLs F w' l vl := by
 obtain ⟨vs, h1, h2⟩ := h
 exact ⟨vs, h1.mono g (fun k _ _ => by simp) (fun k hk _ => hk), RepL.mono g (fun k _ _ => by simp) (fun k hk _ => hk) l vs h2⟩
theorem SLs.bel {F : Nat → Prop} {w : World} {l : List IS} {vl : Value} (h : SLs F w l vl) : SLs (Bel w.heap.size) w l vl := by
 obtain ⟨vs, h1, h2⟩ := h
 exact ⟨vs, h1.mono (Gr.refl w none) (fun k _ _ => by simp) (fun k _ hk => hk), RepL.mono (Gr.refl w none) (fun k _ _ => by simp) (fun k _ hk => hk) l vs h2⟩
theorem Rep.bel {F : Nat → Prop} {w : World} {x : IS} {v : Value} (h : Rep F w x v) : Rep (Bel w.heap.size) w x v :=
 Rep.mono (Gr.refl w none) (fun k _ _ => by simp) (fun k _ hk => hk) x v h
theorem Rep.grB {B : Nat} {w w' : World} {x : IS} {v : Value} {r : Option Nat} (h : Rep (Bel B) w x v) (g : Gr w w' r) (hr : ∀ k, r = some k → B ≤ k) : Rep (Bel B) w' x v :=
 Rep.mono g (fun k hk _ e => by have := hr k e; unfold Bel at hk; omega) (fun k hk _ => hk) x v h
theorem Rep.rel_iff {F : Nat → Prop} {w : World} {nm : List UInt8} {g : List IS} {v : Value} (h : Rep F w (.rel nm g) v) : ∃ vl, v = .iface 114 (.agg [str nm, vl].toArray) ∧ SLs F w g vl := by
 rw [Rep] at h; obtain ⟨vl, vs, h1, h2, h3⟩ := h; exact ⟨vl, h1, vs, h2, h3⟩
theorem Rep.comp_iff {F : Nat → Prop} {w : World} {pe : List UInt8} {g : List IS} {v : Value} (h : Rep F w (.comp g pe) v) : ∃ vl, v = .iface 105 (.agg [vl, str pe].toArray) ∧ SLs F w g vl := by
 rw [Rep] at h; obtain ⟨vl, vs, h1, h2, h3⟩ := h; exact ⟨vl, h1, vs, h2, h3⟩
end Go.Proofs.YtogfnbkccfkpoaaGreatDoor
set_option maxHeartbeats 2000000
namespace Go.Proofs.YtogfnbkccfkpoaaGreatDoor
open Go Go.RowKit
open Eng
theorem run_ix0 (a b c : Value) (w : World) : (Instr.index 50 (.agg #[a, b, c]) (.int .i64 0)).run PR w = .ok a w := by kernel_rfl
theorem run_ix1 (a b c : Value) (w : World) : (Instr.index 50 (.agg #[a, b, c]) (.int .i64 1)).run PR w = .ok b w := by kernel_rfl
theorem run_ix2 (a b c : Value) (w : World) : (Instr.index 50 (.agg #[a, b, c]) (.int .i64 2)).run PR w = .ok c w := by kernel_rfl
theorem R.ix {P : Program} {n : Nat} {l : Fr} {w : World} {dst : Option Nat} {ty : TypeId} {pos : String} {af : Array Edge} {g : Option (Nat × Bool)} {x y : Operand} {t : TypeId} {u i r : Value} (hx : ev l x = some u) (hy : ev l y = some i) (h : (Instr.index t u i).run P w = .ok r w) : Runs P n l ⟨dst, .index t x y, ty, pos, af, g⟩ w (.value r) w := fun a ha => by
 simp [execOp, ha.ev hx, ha.ev hy, h]
def RepB (B : Nat) (w : World) (x : IS) (v : Value) : Prop := Rep (Bel B) w x v
theorem RepB.gr {B : Nat} {w w' : World} {x : IS} {v : Value} {r : Option Nat} (h : RepB B w x v) (g : Gr w w' r) (hr : ∀ k, r = some k → B ≤ k) : RepB B w' x v := Rep.grB h g hr
theorem RepB.grN {B : Nat} {w w' : World} {x : IS} {v : Value} (h : RepB B w x v) (g : Gr w w' none) : RepB B w' x v := Rep.grN h g
def SLB (B : Nat) (w : World) (l : List IS) (vl : Value) : Prop := SLs (Bel B) w l vl
theorem SLB.gr {B : Nat} {w w' : World} {l : List IS} {vl : Value} {r : Option Nat} (h : SLB B w l vl) (g : Gr w w' r) (hr : ∀ k, r = some k → B ≤ k) : SLB B w' l vl := SLs.gr h g hr
theorem SLB.grN {B : Nat} {w w' : World} {l : List IS} {vl : Value} (h : SLB B w l vl) (g : Gr w w' none) : SLB B w' l vl := SLs.grN h g
theorem SLB.get {B : Nat} {w : World} {l : List IS} {vl : Value} (h : SLB B w l vl) (i : Nat) (x : IS) (hx : l[i]? = some x) : ∃ b c v, vl = .slice (some ⟨b, 0, none⟩) l.length c ∧ w.cell? ⟨b, 0 + i * 1, none⟩ = some v ∧ RepB B w x v := SLs.get h i x hx
theorem Less_calls (X Y : Tr) (w0 : World) :
 CR PR 138 [.agg X.cells.toArray, .agg Y.cells.toArray] w0 fun v w' => v = .bool (X.less Y) ∧ Gr w0 w' none := by
 have hG : Gr w0 w0 none := Gr.refl _ _
 refine CR.of (n := 24) [(0, .agg X.cells.toArray), (1, .agg Y.cells.toArray)] Tryz.func138 rfl Tryz.ntmps138 rfl ⟨rfl, rfl, trivial⟩<|qr<|W.box (vs := X.cells) rfl rfl rfl fun w qa hqa hA hv => ?_
 have hG := hG.trans hv
 refine W.box (vs := Y.cells) rfl rfl rfl fun w qb hqb hB hv => ?_
 have hA := hA.grN hv
 have hpl := hA.lt
 have hG := hG.trans hv
 refine pr 1 rfl<|nsq<|qr<|pr 1 rfl<|ns<|rO<|sB [(2, pP qa), (3, pP qb), (6, .int .i64 ((0 : Nat) : Int))] rfl<|C.loop (fun m l w' => ∃ j : Nat, l = [(2, pP qa), (3, pP qb), (6, .int .i64 (j : Int))] ∧ Blk w' qa 50 X.cells ∧ Blk w' qb 50 Y.cells ∧ Gr w0 w' none ∧ j + m = 3 ∧ (0 < j → X.a = Y.a) ∧ (1 < j → X.b = Y.b) ∧ (2 < j → X.c = Y.c)) (3) (⟨0, rfl, hA, hB, hG, om, om, om, om⟩) ?_
 rintro m l w ⟨j, rfl, hA, hB, hG, hm, hj0, hj1, hj2⟩
 refine qr<|qq (R.ltI rfl rfl) rfl<|nsq<|cD rfl (fun h1 => ?_) fun h1 => ?_
 ·refine ksq<|rO<|rQ ?_
  rcases (show j = 0 ∨ j = 1 ∨ j = 2 by omega) with rfl | rfl | rfl
  ·refine rR<|pr 2 rfl<|nsq<|rQ<|dR<|prq 1 rfl<|qw (fun w hw => R.idxP rfl rfl 0 rfl dC ar50) rfl<|lQ sc3 hA rfl rfl<|prq 1 rfl<|qw (fun w hw => R.idxP rfl rfl 0 rfl dC ar50) rfl<|lQ sc3 hB rfl rfl<|qw (fun w hw => R.ltI rfl rfl) rfl<|Wq.nil fun w hw => ?_
   have hA := hA.grN hw
   have hB := hB.grN hw
   have hG := hG.trans hw
   refine rS<|cD rfl (fun h2 => ?_) fun h2 => ?_
   ·refine qr<|pr 1 rfl<|nsth<|rC<|rH<|rH<|rC<|rH<|rA rfl rfl ⟨?_, hG⟩
    rw [Tr.less, if_pos om]
    exact congrArg Value.bool (decide_eq_true om).symm
   refine ksq<|dR<|prq 1 rfl<|qw (fun w hw => R.idxP rfl rfl 0 rfl dC ar50) rfl<|lQ sc3 hA rfl rfl<|prq 1 rfl<|qw (fun w hw => R.idxP rfl rfl 0 rfl dC ar50) rfl<|lQ sc3 hB rfl rfl<|qw (fun w hw => R.gtI rfl rfl) rfl<|Wq.nil fun w hw => ?_
   have hA := hA.grN hw
   have hB := hB.grN hw
   have hG := hG.trans hw
   refine rS<|cD rfl (fun h3 => ?_) fun h3 => ?_
   ·refine qr<|pr 1 rfl<|nst<|rC<|rH<|rH<|rC<|rH<|rA rfl rfl ⟨?_, hG⟩
    rw [Tr.less, if_pos om]
    exact congrArg Value.bool (decide_eq_false om).symm
   exact rK<|bS<|rR<|qq (R.addK (a0 := 0) 1 rfl rfl dC) rfl<|pr 1 rfl<|rN<|cT [(2, pP qa), (3, pP qb), (6, .int .i64 ((0 + 1 : Nat) : Int))] rfl ⟨m - 1, om, 0 + 1, rfl, hA, hB, hG, om, om, om, om⟩
  ·refine rR<|pr 2 rfl<|nsq<|rQ<|dR<|prq 1 rfl<|qw (fun w hw => R.idxP rfl rfl 1 rfl dC ar50) rfl<|lQ sc3 hA rfl rfl<|prq 1 rfl<|qw (fun w hw => R.idxP rfl rfl 1 rfl dC ar50) rfl<|lQ sc3 hB rfl rfl<|qw (fun w hw => R.ltI rfl rfl) rfl<|Wq.nil fun w hw => ?_
   have hA := hA.grN hw
   have hB := hB.grN hw
   have hG := hG.trans hw
   refine rS<|cD rfl (fun h4 => ?_) fun h4 => ?_
   ·refine qr<|pr 1 rfl<|nsth<|rC<|rH<|rH<|rC<|rH<|rA rfl rfl ⟨?_, hG⟩
    rw [Tr.less, if_neg om, if_pos om]
    exact congrArg Value.bool (decide_eq_true om).symm
   refine ksq<|dR<|prq 1 rfl<|qw (fun w hw => R.idxP rfl rfl 1 rfl dC ar50) rfl<|lQ sc3 hA rfl rfl<|prq 1 rfl<|qw (fun w hw => R.idxP rfl rfl 1 rfl dC ar50) rfl<|lQ sc3 hB rfl rfl<|qw (fun w hw => R.gtI rfl rfl) rfl<|Wq.nil fun w hw => ?_
   have hA := hA.grN hw
   have hB := hB.grN hw
   have hG := hG.trans hw
   refine rS<|cD rfl (fun h5 => ?_) fun h5 => ?_
   ·refine qr<|pr 1 rfl<|nst<|rC<|rH<|rH<|rC<|rH<|rA rfl rfl ⟨?_, hG⟩
    rw [Tr.less, if_neg om, if_pos om]
    exact congrArg Value.bool (decide_eq_false om).symm
   exact rK<|bS<|rR<|qq (R.addK (a0 := 1) 1 rfl rfl dC) rfl<|pr 1 rfl<|rN<|cT [(2, pP qa), (3, pP qb), (6, .int .i64 ((1 + 1 : Nat) : Int))] rfl ⟨m - 1, om, 1 + 1, rfl, hA, hB, hG, om, om, om, om⟩
  refine rR<|pr 2 rfl<|nsq<|rQ<|dR<|prq 1 rfl<|qw (fun w hw => R.idxP rfl rfl 2 rfl dC ar50) rfl<|lQ sc3 hA rfl rfl<|prq 1 rfl<|qw (fun w hw => R.idxP rfl rfl 2 rfl dC ar50) rfl<|lQ sc3 hB rfl rfl<|qw (fun w hw => R.ltI rfl rfl) rfl<|Wq.nil fun w hw => ?_
  have hA := hA.grN hw
  have hB := hB.grN hw
  have hG := hG.trans hw
  refine rS<|cD rfl (fun h6 => ?_) fun h6 => ?_
  ·refine qr<|pr 1 rfl<|nsth<|rC<|rH<|rH<|rC<|rH<|rA rfl rfl ⟨?_, hG⟩
   rw [Tr.less, if_neg om, if_neg om, if_pos om]
   exact congrArg Value.bool (decide_eq_true om).symm
  refine ksq<|dR<|prq 1 rfl<|qw (fun w hw => R.idxP rfl rfl 2 rfl dC ar50) rfl<|lQ sc3 hA rfl rfl<|prq 1 rfl<|qw (fun w hw => R.idxP rfl rfl 2 rfl dC ar50) rfl<|lQ sc3 hB rfl rfl<|qw (fun w hw => R.gtI rfl rfl) rfl<|Wq.nil fun w hw => ?_
  have hA := hA.grN hw
  have hB := hB.grN hw
  have hG := hG.trans hw
  refine rS<|cD rfl (fun h7 => ?_) fun h7 => ?_
  ·refine qr<|pr 1 rfl<|nst<|rC<|rH<|rH<|rC<|rH<|rA rfl rfl ⟨?_, hG⟩
   rw [Tr.less, if_neg om, if_neg om, if_pos om]
   exact congrArg Value.bool (decide_eq_false om).symm
  exact rK<|bS<|rR<|qq (R.addK (a0 := 2) 1 rfl rfl dC) rfl<|pr 1 rfl<|rN<|cT [(2, pP qa), (3, pP qb), (6, .int .i64 ((2 + 1 : Nat) : Int))] rfl ⟨m - 1, om, 2 + 1, rfl, hA, hB, hG, om, om, om, om⟩
 refine rE<|rX<|rX<|rY<|sqr<|pr 1 rfl<|nst<|rA rfl rfl ⟨?_, hG⟩
 rw [Tr.less, if_neg om, if_neg om, if_neg om]
theorem Add_calls (X Y : Tr) (w0 : World) (h1 : X.a + Y.a < 4611686018427387904) (h2 : X.b + Y.b < 4611686018427387904) (h3 : X.c + Y.c < 4611686018427387904) :
 CR PR 144 [.agg X.cells.toArray, .agg Y.cells.toArray] w0 fun v w' => v = .agg (X.add Y).cells.toArray ∧ Gr w0 w' none := by
 have hG : Gr w0 w0 none := Gr.refl _ _
 refine CR.of (n := 20) [(0, .agg X.cells.toArray), (1, .agg Y.cells.toArray)] Tryz.func144 rfl Tryz.ntmps144 rfl ⟨rfl, rfl, trivial⟩<|qr<|W.box (vs := X.cells) rfl rfl rfl fun w qa hqa hA hv => ?_
 have hG := hG.trans hv
 refine W.box (vs := Y.cells) rfl rfl rfl fun w qb hqb hB hv => ?_
 have hA := hA.grN hv
 have hpl := hA.lt
 have hG := hG.trans hv
 have hz4 := hG.size
 have hbl := hB.lt
 refine W.alloc z50 rfl fun w q4 hq4 hR hv => ?_
 have hA := hA.grN hv
 have hB := hB.grN hv
 have hG := hG.trans hv
 refine ns<|C.cut (fun l w' => l = [(2, pP qa), (4, pP q4)] ∧ Blk w' qa 50 (X.add Y).cells ∧ Blk w' q4 50 Tr.zero.cells ∧ Gr w0 w' none) ?_ ?_
 ·refine qr<|qq (R.loadAgg (k := 3) (vs := Y.cells) ag50 rfl hB (Nat.le_refl 3) rfl) rfl<|pr 1 rfl<|ns<|rO<|sB [(2, pP qa), (4, pP q4), (7, .agg Y.cells.toArray), (8, .int .i64 ((0 : Nat) : Int))] rfl<|C.loop (fun m l w' => ∃ j : Nat, l = [(2, pP qa), (4, pP q4), (7, .agg Y.cells.toArray), (8, .int .i64 (j : Int))] ∧ Blk w' qa 50 (Tr.mix j X Y).cells ∧ Blk w' q4 50 Tr.zero.cells ∧ Gr w0 w' none ∧ j + m = 3) (3) (⟨0, rfl, hA, hR, hG, om⟩) ?_
  rintro m l w ⟨j, rfl, hA, hR, hG, hm⟩
  refine qr<|qq (R.ltI rfl rfl) rfl<|nsq<|cD rfl (fun h1 => ?_) fun h1 => ?_
  ·refine ksq<|rO<|rQ ?_
   rcases (show j = 0 ∨ j = 1 ∨ j = 2 by omega) with rfl | rfl | rfl
   ·have hA : Blk _ qa 50 [.int .i64 ((X.a : Nat) : Int), .int .i64 ((X.b : Nat) : Int), .int .i64 ((X.c : Nat) : Int)] := hA
    refine rR<|pr 1 rfl<|qq (R.ix rfl rfl (run_ix0 _ _ _ _)) rfl<|pr 2 rfl<|nsr<|pr 1 rfl<|qq (R.idxP rfl rfl 0 rfl dC ar50) rfl<|lD sc3 hA rfl rfl<|pr 1 rfl<|qq (R.addN rfl rfl om) rfl<|qq (R.idxP rfl rfl 0 rfl dC ar50) rfl<|sT sc3 hA rfl fun w hA hs => ?_
    have hR := hR.gr hs au
    have hG := hG.fresh hs om
    exact nbs<|rR<|qq (R.addK (a0 := 0) 1 rfl rfl dC) rfl<|pr 1 rfl<|rN<|cT [(2, pP qa), (4, pP q4), (7, .agg Y.cells.toArray), (8, .int .i64 ((0 + 1 : Nat) : Int))] rfl ⟨m - 1, om, 0 + 1, rfl, hA, hR, hG, om⟩
   ·have hA : Blk _ qa 50 [.int .i64 ((X.a + Y.a : Nat) : Int), .int .i64 ((X.b : Nat) : Int), .int .i64 ((X.c : Nat) : Int)] := hA
    refine rR<|pr 1 rfl<|qq (R.ix rfl rfl (run_ix1 _ _ _ _)) rfl<|pr 2 rfl<|nsr<|pr 1 rfl<|qq (R.idxP rfl rfl 1 rfl dC ar50) rfl<|lD sc3 hA rfl rfl<|pr 1 rfl<|qq (R.addN rfl rfl om) rfl<|qq (R.idxP rfl rfl 1 rfl dC ar50) rfl<|sT sc3 hA rfl fun w hA hs => ?_
    have hR := hR.gr hs au
    have hG := hG.fresh hs om
    exact nbs<|rR<|qq (R.addK (a0 := 1) 1 rfl rfl dC) rfl<|pr 1 rfl<|rN<|cT [(2, pP qa), (4, pP q4), (7, .agg Y.cells.toArray), (8, .int .i64 ((1 + 1 : Nat) : Int))] rfl ⟨m - 1, om, 1 + 1, rfl, hA, hR, hG, om⟩
   have hA : Blk _ qa 50 [.int .i64 ((X.a + Y.a : Nat) : Int), .int .i64 ((X.b + Y.b : Nat) : Int), .int .i64 ((X.c : Nat) : Int)] := hA
   refine rR<|pr 1 rfl<|qq (R.ix rfl rfl (run_ix2 _ _ _ _)) rfl<|pr 2 rfl<|nsr<|pr 1 rfl<|qq (R.idxP rfl rfl 2 rfl dC ar50) rfl<|lD sc3 hA rfl rfl<|pr 1 rfl<|qq (R.addN rfl rfl om) rfl<|qq (R.idxP rfl rfl 2 rfl dC ar50) rfl<|sT sc3 hA rfl fun w hA hs => ?_
   have hR := hR.gr hs au
   have hG := hG.fresh hs om
   exact nbs<|rR<|qq (R.addK (a0 := 2) 1 rfl rfl dC) rfl<|pr 1 rfl<|rN<|cT [(2, pP qa), (4, pP q4), (7, .agg Y.cells.toArray), (8, .int .i64 ((2 + 1 : Nat) : Int))] rfl ⟨m - 1, om, 2 + 1, rfl, hA, hR, hG, om⟩
  refine rE<|rX<|rX<|rY ?_
  obtain rfl : j = 3 := by omega
  exact cT [(2, pP qa), (4, pP q4)] rfl ⟨rfl, hA, hR, hG⟩
 rintro l w ⟨rfl, hA, hR, hG⟩
 refine qr<|qq (R.loadAgg (k := 3) (vs := (X.add Y).cells) ag50 rfl hA (Nat.le_refl 3) rfl) rfl<|W.storeAll ag50 rfl rfl hR rfl rfl (Tr.cells_one _) fun w hR hs => ?_
 have hG := hG.fresh hs om
 exact nst<|At.resCell rfl rfl (loadVar_agg ag50 hR rfl) ⟨rfl, hG⟩
theorem mem_drop {α : Type} {l r : List α} {x : α} {i : Nat} (h : l.drop i = x :: r) : l[i]? = some x ∧ x ∈ l ∧ l.drop (i + 1) = r ∧ i < l.length := by
 have h1 : i < l.length := by
  rcases Nat.lt_or_ge i l.length with h1 | h1
  ·exact h1
  rw [List.drop_eq_nil_of_le h1] at h; cases h
 rw [List.drop_eq_getElem_cons h1] at h
 injection h with h2 h3
 exact ⟨by rw [List.getElem?_eq_getElem h1, h2], by rw [← h2]; exact List.getElem_mem h1, h3, h1⟩
theorem tagSpec_calls (vs : List Value) (w0 : World) :
 CR PR 147 [.agg vs.toArray] w0 fun v w' => v = .agg (⟨0, 0, 1⟩ : Tr).cells.toArray ∧ Gr w0 w' none := by
 have hG : Gr w0 w0 none := Gr.refl _ _
 refine CR.of (n := 4) [(0, .agg vs.toArray)] Tryz.func147 rfl Tryz.ntmps147 rfl ⟨rfl, trivial⟩<|qr<|W.box (vs := vs) rfl rfl rfl fun w q1 hq1 hB hv => ?_
 have hG := hG.trans hv
 have hz := hG.size
 refine W.alloc z50 rfl fun w q2 hq2 hR hv => ?_
 have hG := hG.trans hv
 refine nsqr<|qq (R.build (vs := (⟨0, 0, 1⟩ : Tr).cells) (ps := [(0, .int .i64 0), (1, .int .i64 0), (2, .int .i64 1)]) (fun a ha => by simp [Act.eval]) kR) rfl<|W.storeAll ag50 rfl rfl hR rfl rfl (Tr.cells_one _) fun w hR hs => ?_
 have hG := hG.fresh hs om
 exact nst<|At.resCell rfl rfl (loadVar_agg ag50 hR rfl) ⟨rfl, hG⟩
theorem idSpec_calls (vs : List Value) (w0 : World) :
 CR PR 151 [.agg vs.toArray] w0 fun v w' => v = .agg (⟨1, 0, 0⟩ : Tr).cells.toArray ∧ Gr w0 w' none := by
 have hG : Gr w0 w0 none := Gr.refl _ _
 refine CR.of (n := 4) [(0, .agg vs.toArray)] Tryz.func151 rfl Tryz.ntmps151 rfl ⟨rfl, trivial⟩<|qr<|W.box (vs := vs) rfl rfl rfl fun w q1 hq1 hB hv => ?_
 have hG := hG.trans hv
 have hz := hG.size
 refine W.alloc z50 rfl fun w q2 hq2 hR hv => ?_
 have hG := hG.trans hv
 refine nsqr<|qq (R.build (vs := (⟨1, 0, 0⟩ : Tr).cells) (ps := [(0, .int .i64 1), (1, .int .i64 0), (2, .int .i64 0)]) (fun a ha => by simp [Act.eval]) kR) rfl<|W.storeAll ag50 rfl rfl hR rfl rfl (Tr.cells_one _) fun w hR hs => ?_
 have hG := hG.fresh hs om
 exact nst<|At.resCell rfl rfl (loadVar_agg ag50 hR rfl) ⟨rfl, hG⟩
theorem clsSpec_calls (vs : List Value) (w0 : World) :
 CR PR 156 [.agg vs.toArray] w0 fun v w' => v = .agg (⟨0, 1, 0⟩ : Tr).cells.toArray ∧ Gr w0 w' none := by
 have hG : Gr w0 w0 none := Gr.refl _ _
 refine CR.of (n := 4) [(0, .agg vs.toArray)] Tryz.func156 rfl Tryz.ntmps156 rfl ⟨rfl, trivial⟩<|qr<|W.box (vs := vs) rfl rfl rfl fun w q1 hq1 hB hv => ?_
 have hG := hG.trans hv
 have hz := hG.size
 refine W.alloc z50 rfl fun w q2 hq2 hR hv => ?_
 have hG := hG.trans hv
 refine nsqr<|qq (R.build (vs := (⟨0, 1, 0⟩ : Tr).cells) (ps := [(0, .int .i64 0), (1, .int .i64 1), (2, .int .i64 0)]) (fun a ha => by simp [Act.eval]) kR) rfl<|W.storeAll ag50 rfl rfl hR rfl rfl (Tr.cells_one _) fun w hR hs => ?_
 have hG := hG.fresh hs om
 exact nst<|At.resCell rfl rfl (loadVar_agg ag50 hR rfl) ⟨rfl, hG⟩
theorem attrSpec_calls (vs : List Value) (w0 : World) :
 CR PR 160 [.agg vs.toArray] w0 fun v w' => v = .agg (⟨0, 1, 0⟩ : Tr).cells.toArray ∧ Gr w0 w' none := by
 have hG : Gr w0 w0 none := Gr.refl _ _
 refine CR.of (n := 4) [(0, .agg vs.toArray)] Tryz.func160 rfl Tryz.ntmps160 rfl ⟨rfl, trivial⟩<|qr<|W.box (vs := vs) rfl rfl rfl fun w q1 hq1 hB hv => ?_
 have hG := hG.trans hv
 have hz := hG.size
 refine W.alloc z50 rfl fun w q2 hq2 hR hv => ?_
 have hG := hG.trans hv
 refine nsqr<|qq (R.build (vs := (⟨0, 1, 0⟩ : Tr).cells) (ps := [(0, .int .i64 0), (1, .int .i64 1), (2, .int .i64 0)]) (fun a ha => by simp [Act.eval]) kR) rfl<|W.storeAll ag50 rfl rfl hR rfl rfl (Tr.cells_one _) fun w hR hs => ?_
 have hG := hG.fresh hs om
 exact nst<|At.resCell rfl rfl (loadVar_agg ag50 hR rfl) ⟨rfl, hG⟩
theorem absSpec_calls (vs : List Value) (w0 : World) :
 CR PR 171 [.agg vs.toArray] w0 fun v w' => v = .agg (⟨0, 1, 0⟩ : Tr).cells.toArray ∧ Gr w0 w' none := by
 have hG : Gr w0 w0 none := Gr.refl _ _
 refine CR.of (n := 4) [(0, .agg vs.toArray)] Tryz.func171 rfl Tryz.ntmps171 rfl ⟨rfl, trivial⟩<|qr<|W.box (vs := vs) rfl rfl rfl fun w q1 hq1 hB hv => ?_
 have hG := hG.trans hv
 have hz := hG.size
 refine W.alloc z50 rfl fun w q2 hq2 hR hv => ?_
 have hG := hG.trans hv
 refine nsqr<|qq (R.build (vs := (⟨0, 1, 0⟩ : Tr).cells) (ps := [(0, .int .i64 0), (1, .int .i64 1), (2, .int .i64 0)]) (fun a ha => by simp [Act.eval]) kR) rfl<|W.storeAll ag50 rfl rfl hR rfl rfl (Tr.cells_one _) fun w hR hs => ?_
 have hG := hG.fresh hs om
 exact nst<|At.resCell rfl rfl (loadVar_agg ag50 hR rfl) ⟨rfl, hG⟩
theorem neverSpec_calls (vs : List Value) (w0 : World) :
 CR PR 196 [.agg vs.toArray] w0 fun v w' => v = .agg (⟨0, 0, 0⟩ : Tr).cells.toArray ∧ Gr w0 w' none := by
 have hG : Gr w0 w0 none := Gr.refl _ _
 refine CR.of (n := 4) [(0, .agg vs.toArray)] Tryz.func196 rfl Tryz.ntmps196 rfl ⟨rfl, trivial⟩<|qr<|W.box (vs := vs) rfl rfl rfl fun w q1 hq1 hB hv => ?_
 have hG := hG.trans hv
 have hz := hG.size
 refine W.alloc z50 rfl fun w q2 hq2 hR hv => ?_
 have hG := hG.trans hv
 refine nsqr<|qq (R.build (vs := (⟨0, 0, 0⟩ : Tr).cells) (ps := [(0, .int .i64 0), (1, .int .i64 0), (2, .int .i64 0)]) (fun a ha => by simp [Act.eval]) kR) rfl<|W.storeAll ag50 rfl rfl hR rfl rfl (Tr.cells_one _) fun w hR hs => ?_
 have hG := hG.fresh hs om
 exact nst<|At.resCell rfl rfl (loadVar_agg ag50 hR rfl) ⟨rfl, hG⟩
theorem tagPel_calls (vs : List Value) (w0 : World) :
 CR PR 146 [.agg vs.toArray] w0 fun v w' => v = str [] ∧ Gr w0 w' none := by
 have hG : Gr w0 w0 none := Gr.refl _ _
 refine CR.of (n := 3) [(0, .agg vs.toArray)] Tryz.func146 rfl Tryz.ntmps146 rfl ⟨rfl, trivial⟩<|qr<|W.box (vs := vs) rfl rfl rfl fun w q1 hq1 hB hv => ?_
 have hG := hG.trans hv
 exact pr 1 rfl<|nsqr<|pr 1 rfl<|nst<|rA rfl rfl ⟨rfl, hG⟩
theorem idPel_calls (vs : List Value) (w0 : World) :
 CR PR 150 [.agg vs.toArray] w0 fun v w' => v = str [] ∧ Gr w0 w' none := by
 have hG : Gr w0 w0 none := Gr.refl _ _
 refine CR.of (n := 3) [(0, .agg vs.toArray)] Tryz.func150 rfl Tryz.ntmps150 rfl ⟨rfl, trivial⟩<|qr<|W.box (vs := vs) rfl rfl rfl fun w q1 hq1 hB hv => ?_
 have hG := hG.trans hv
 exact pr 1 rfl<|nsqr<|pr 1 rfl<|nst<|rA rfl rfl ⟨rfl, hG⟩
theorem clsPel_calls (vs : List Value) (w0 : World) :
 CR PR 155 [.agg vs.toArray] w0 fun v w' => v = str [] ∧ Gr w0 w' none := by
 have hG : Gr w0 w0 none := Gr.refl _ _
 refine CR.of (n := 3) [(0, .agg vs.toArray)] Tryz.func155 rfl Tryz.ntmps155 rfl ⟨rfl, trivial⟩<|qr<|W.box (vs := vs) rfl rfl rfl fun w q1 hq1 hB hv => ?_
 have hG := hG.trans hv
 exact pr 1 rfl<|nsqr<|pr 1 rfl<|nst<|rA rfl rfl ⟨rfl, hG⟩
theorem attrPel_calls (vs : List Value) (w0 : World) :
 CR PR 159 [.agg vs.toArray] w0 fun v w' => v = str [] ∧ Gr w0 w' none := by
 have hG : Gr w0 w0 none := Gr.refl _ _
 refine CR.of (n := 3) [(0, .agg vs.toArray)] Tryz.func159 rfl Tryz.ntmps159 rfl ⟨rfl, trivial⟩<|qr<|W.box (vs := vs) rfl rfl rfl fun w q1 hq1 hB hv => ?_
 have hG := hG.trans hv
 exact pr 1 rfl<|nsqr<|pr 1 rfl<|nst<|rA rfl rfl ⟨rfl, hG⟩
theorem relPel_calls (vs : List Value) (w0 : World) :
 CR PR 167 [.agg vs.toArray] w0 fun v w' => v = str [] ∧ Gr w0 w' none := by
 have hG : Gr w0 w0 none := Gr.refl _ _
 refine CR.of (n := 3) [(0, .agg vs.toArray)] Tryz.func167 rfl Tryz.ntmps167 rfl ⟨rfl, trivial⟩<|qr<|W.box (vs := vs) rfl rfl rfl fun w q1 hq1 hB hv => ?_
 have hG := hG.trans hv
 exact pr 1 rfl<|nsqr<|pr 1 rfl<|nst<|rA rfl rfl ⟨rfl, hG⟩
theorem absPel_calls (vs : List Value) (w0 : World) :
 CR PR 170 [.agg vs.toArray] w0 fun v w' => v = str [] ∧ Gr w0 w' none := by
 have hG : Gr w0 w0 none := Gr.refl _ _
 refine CR.of (n := 3) [(0, .agg vs.toArray)] Tryz.func170 rfl Tryz.ntmps170 rfl ⟨rfl, trivial⟩<|qr<|W.box (vs := vs) rfl rfl rfl fun w q1 hq1 hB hv => ?_
 have hG := hG.trans hv
 exact pr 1 rfl<|nsqr<|pr 1 rfl<|nst<|rA rfl rfl ⟨rfl, hG⟩
theorem neverPel_calls (vs : List Value) (w0 : World) :
 CR PR 195 [.agg vs.toArray] w0 fun v w' => v = str [] ∧ Gr w0 w' none := by
 have hG : Gr w0 w0 none := Gr.refl _ _
 refine CR.of (n := 3) [(0, .agg vs.toArray)] Tryz.func195 rfl Tryz.ntmps195 rfl ⟨rfl, trivial⟩<|qr<|W.box (vs := vs) rfl rfl rfl fun w q1 hq1 hB hv => ?_
 have hG := hG.trans hv
 exact pr 1 rfl<|nsqr<|pr 1 rfl<|nst<|rA rfl rfl ⟨rfl, hG⟩
theorem combSpec_calls (F : Nat → Prop) (a b : IS) (c : Nat) (ta tb : TypeId) (ua ub : Value) (w0 : World) (hra : Rep F w0 a (.iface ta ua)) (hrb : Rep F w0 b (.iface tb ub)) (ia : SpecOk a) (ib : SpecOk b) (hw : a.wt + b.wt ≤ 1000000000) :
 CR PR 142 [.agg [.iface ta ua, .int .u8 (c : Int), .iface tb ub].toArray] w0 fun v w' => v = .agg (a.spec.add b.spec).cells.toArray ∧ Gr w0 w' none := by
 have hra : RepB w0.heap.size w0 a (.iface ta ua) := hra.bel
 have hrb : RepB w0.heap.size w0 b (.iface tb ub) := hrb.bel
 obtain ⟨sa1, sa2, sa3⟩ := IS.spec_le a
 obtain ⟨sb1, sb2, sb3⟩ := IS.spec_le b
 have hG : Gr w0 w0 none := Gr.refl _ _
 refine CR.of (n := 16) [(0, .agg [.iface ta ua, .int .u8 (c : Int), .iface tb ub].toArray)] Tryz.func142 rfl Tryz.ntmps142 rfl ⟨rfl, trivial⟩<|qr<|W.box (vs := [.iface ta ua, .int .u8 (c : Int), .iface tb ub]) rfl rfl rfl fun w q1 hq1 hB hv => ?_
 have hra := hra.grN hv
 have hrb := hrb.grN hv
 have hG := hG.trans hv
 have hl_q2_q1 := hB.lt
 have hz_q2 := hG.size
 refine W.alloc z50 rfl fun w q2 hq2 hR hv => ?_
 have hra := hra.grN hv
 have hrb := hrb.grN hv
 have hB := hB.grN hv
 have hG := hG.trans hv
 refine nsqr<|fA fo81_0 rfl<|lD sc48 hB rfl rfl<|W.callM rfl (ia _ _ _ hra) (hra) rfl fun v w hv => ?_
 obtain ⟨rfl, hv⟩ := hv
 have hra := hra.grN hv
 have hrb := hrb.grN hv
 have hB := hB.grN hv
 have hR := hR.grN hv
 have hG := hG.trans hv
 have hl_q3_q1 := hB.lt
 have hl_q3_q2 := hR.lt
 have hz_q3 := hG.size
 refine W.alloc z50 rfl fun w q3 hq3 hA hv => ?_
 have hra := hra.grN hv
 have hrb := hrb.grN hv
 have hB := hB.grN hv
 have hR := hR.grN hv
 have hG := hG.trans hv
 refine W.storeAll ag50 rfl rfl hA rfl rfl (Tr.cells_one _) fun w hA hs => ?_
 have hra := hra.gr hs au
 have hrb := hrb.gr hs au
 have hB := hB.gr hs au
 have hR := hR.gr hs au
 have hG := hG.fresh hs om
 refine nsq<|qr<|fA fo81_2 rfl<|lD sc48 hB rfl rfl<|qq (R.neNilT ifc48 rfl) rfl<|ns<|cV rfl<|C.drawSt (fun w' => Gr _ w' none) mixed kR kR rfl ⟨rfl, rfl⟩ (Gr.drew _ _)<|qw (fun w hw => R.loadAgg (k := 3) (vs := a.spec.cells) ag50 rfl (hA.grN hw) (Nat.le_refl 3) rfl) rfl<|fQ fo81_2 rfl<|lQ sc48 hB rfl rfl<|Wq.callM rfl (ib _ _ _ hrb) (fun w hw => hrb.grN hw) (fun w u w' hw hv => ⟨hv.1, Gr.trans hw hv.2⟩) rfl<|Wq.enter (fun w hw => R.call en144 rfl) rfl rfl rfl (fun w hw => (Add_calls a.spec b.spec _ om om om).mono fun v w' hv => ⟨hv.1, Gr.trans hw hv.2⟩)<|Wq.last (fun w hw => R.move rfl) rfl rfl fun w hw => ?_
 have hra := hra.grN hw
 have hrb := hrb.grN hw
 have hB := hB.grN hw
 have hR := hR.grN hw
 have hA := hA.grN hw
 have hG := hG.trans hw
 refine W.storeAll ag50 rfl rfl hA rfl rfl (Tr.cells_one _) fun w hA hs => ?_
 have hra := hra.gr hs au
 have hrb := hrb.gr hs au
 have hB := hB.gr hs au
 have hR := hR.gr hs au
 have hG := hG.fresh hs om
 refine nsqr<|qq (R.loadAgg (k := 3) (vs := (a.spec.add b.spec).cells) ag50 rfl hA (Nat.le_refl 3) rfl) rfl<|W.storeAll ag50 rfl rfl hR rfl rfl (Tr.cells_one _) fun w hR hs => ?_
 have hra := hra.gr hs au
 have hrb := hrb.gr hs au
 have hB := hB.gr hs au
 have hA := hA.gr hs au
 have hG := hG.fresh hs om
 refine nst<|At.resCell rfl rfl (loadVar_agg ag50 hR rfl) ⟨?_, hG⟩
 rfl
theorem combPel_calls (F : Nat → Prop) (a b : IS) (c : Nat) (ta tb : TypeId) (ua ub : Value) (w0 : World) (hrb : Rep F w0 b (.iface tb ub)) (ib : PelOk b) :
 CR PR 141 [.agg [.iface ta ua, .int .u8 (c : Int), .iface tb ub].toArray] w0 fun v w' => v = str b.pel ∧ Gr w0 w' none := by
 have hG : Gr w0 w0 none := Gr.refl _ _
 refine CR.of (n := 9) [(0, .agg [.iface ta ua, .int .u8 (c : Int), .iface tb ub].toArray)] Tryz.func141 rfl Tryz.ntmps141 rfl ⟨rfl, trivial⟩<|qr<|W.box (vs := [.iface ta ua, .int .u8 (c : Int), .iface tb ub]) rfl rfl rfl fun w q1 hq1 hB hv => ?_
 have hrb := hrb.grN hv
 have hG := hG.trans hv
 refine pr 1 rfl<|nsq<|qr<|fA fo81_2 rfl<|lD sc48 hB rfl rfl<|qq (R.eqNilF ifc48 rfl) rfl<|ns<|cF rfl<|ksqr<|fA fo81_2 rfl<|lD sc48 hB rfl rfl<|W.callM rfl (ib _ _ _ hrb) (hrb) rfl fun v w hv => ?_
 obtain ⟨rfl, hv⟩ := hv
 have hrb := hrb.grN hv
 have hB := hB.grN hv
 have hG := hG.trans hv
 exact pr 1 rfl<|nst<|rA rfl rfl ⟨rfl, hG⟩
theorem compPel_calls (u : Value) (hu : u.cells = #[u]) (pe : List UInt8) (w0 : World) :
 CR PR 163 [.agg [u, str pe].toArray] w0 fun v w' => v = str pe ∧ Gr w0 w' none := by
 have hG : Gr w0 w0 none := Gr.refl _ _
 refine CR.of (n := 5) [(0, .agg [u, str pe].toArray)] Tryz.func163 rfl Tryz.ntmps163 rfl ⟨rfl, trivial⟩<|qr<|W.box (vs := [u, str pe]) rfl rfl rfl fun w q1 hq1 hB hv => ?_
 have hG := hG.trans hv
 exact pr 1 rfl<|nsqr<|fA fo105_1 rfl<|lD sc9 hB rfl rfl<|pr 1 rfl<|nst<|rA rfl rfl ⟨rfl, hG⟩
theorem IS.wtL_len : ∀ l : List IS, 2 * l.length ≤ IS.wtL l
 | [] => by simp [IS.wtL]
 | x :: r => by
  have := IS.wtL_len r
  rw [IS.wtL, List.length_cons]; omega
theorem sc41 : scalar PR 41 = true := by kernel_rfl
theorem sc42 : scalar PR 42 = true := by kernel_rfl
theorem compSpec_calls (F : Nat → Prop) (l : List IS) (pe : List UInt8) (va : Option Addr) (vc : Nat) (w0 : World) (hS : SLs F w0 l (.slice va l.length vc)) (io : ∀ x ∈ l, SpecOk x) (hw : IS.wtL l ≤ 1000000000) :
 CR PR 164 [.agg [.slice va l.length vc, str pe].toArray] w0 fun v w' => v = .agg (IS.spec (.comp l pe)).cells.toArray ∧ Gr w0 w' none := by
 have hS : SLB w0.heap.size w0 l (.slice va l.length vc) := hS.bel
 have hlw := IS.wtL_len l
 have hG : Gr w0 w0 none := Gr.refl _ _
 refine CR.of (n := 25) [(0, .agg [.slice va l.length vc, str pe].toArray)] Tryz.func164 rfl Tryz.ntmps164 rfl ⟨rfl, trivial⟩<|qr<|W.box (vs := [.slice va l.length vc, str pe]) rfl rfl rfl fun w q1 hq1 hB hv => ?_
 have hS := hS.grN hv
 have hG := hG.trans hv
 have hl_q2_q1 := hB.lt
 have hz_q2 := hG.size
 refine W.alloc z50 rfl fun w q2 hq2 hR hv => ?_
 have hS := hS.grN hv
 have hB := hB.grN hv
 have hG := hG.trans hv
 refine nsqr ?_
 have hl_q3_q1 := hB.lt
 have hl_q3_q2 := hR.lt
 have hz_q3 := hG.size
 refine W.alloc z50 rfl fun w q3 hq3 hA hv => ?_
 have hS := hS.grN hv
 have hB := hB.grN hv
 have hR := hR.grN hv
 have hG := hG.trans hv
 refine ns<|C.cut (fun l' w' => l' = [(1, pP q1), (2, pP q2), (3, pP q3)] ∧ Blk w' q1 105 [.slice va l.length vc, str pe] ∧ Blk w' q2 50 Tr.zero.cells ∧ SLB w0.heap.size w' l (.slice va l.length vc) ∧ Gr w0 w' none ∧ Blk w' q3 50 (IS.specSum Tr.zero l).cells) ?_ ?_
 ·refine qr<|fA fo105_0 rfl<|lD sc41 hB rfl rfl<|qq (R.lenL rfl slq41) rfl<|pr 1 rfl<|ns<|rO<|sB [(1, pP q1), (2, pP q2), (3, pP q3), (7, .slice va l.length vc), (8, .int .i64 (l.length : Int)), (9, .int .i64 ((0 : Nat) : Int))] rfl<|C.loop (fun m l' w' => ∃ (i : Nat) (acc : Tr) (r : List IS), l' = [(1, pP q1), (2, pP q2), (3, pP q3), (7, .slice va l.length vc), (8, .int .i64 (l.length : Int)), (9, .int .i64 (i : Int))] ∧ Blk w' q1 105 [.slice va l.length vc, str pe] ∧ Blk w' q2 50 Tr.zero.cells ∧ SLB w0.heap.size w' l (.slice va l.length vc) ∧ Gr w0 w' none ∧ Blk w' q3 50 acc.cells ∧ l.drop i = r ∧ i + r.length = l.length ∧ IS.specSum acc r = IS.specSum Tr.zero l ∧ acc.a + IS.wtL r ≤ IS.wtL l ∧ acc.b + IS.wtL r ≤ IS.wtL l ∧ acc.c + IS.wtL r ≤ IS.wtL l ∧ m = r.length) (l.length) (⟨0, Tr.zero, l, rfl, hB, hR, hS, hG, hA, rfl, om, rfl, by simp [Tr.zero], by simp [Tr.zero], by simp [Tr.zero], rfl⟩) ?_
  rintro m l w ⟨i, acc, r, rfl, hB, hR, hS, hG, hA, hdr, hir, hE, ha1, ha2, ha3, hm⟩
  refine qr<|qq (R.ltI rfl rfl) rfl<|nsq<|cD rfl (fun h1 => ?_) fun h1 => ?_
  ·refine ksq<|rO<|rQ ?_
   obtain ⟨x, r, rfl⟩ : ∃ x r', r = x :: r' := by
    cases r with
    | nil => simp at hir; omega
    | cons x r => exact ⟨x, r, rfl⟩
   obtain ⟨hix, hmem, hdr2, hil⟩ := mem_drop hdr
   obtain ⟨xb, xc, xv, hxe, hxc, hrx⟩ := hS.get i x hix
   injection hxe with hxe1 hxe2 hxe3
   subst hxe1 hxe3
   obtain ⟨xt, xu, rfl⟩ := Rep.ifc hrx
   obtain ⟨sx1, sx2, sx3⟩ := IS.spec_le x
   rw [IS.wtL] at ha1 ha2 ha3
   refine rR<|qq (R.idxA rfl rfl i rfl hil sl41) rfl<|qq (R.loadC sc48 rfl hxc) rfl<|pr 1 rfl<|ns<|C.drawSt (fun w' => Gr _ w' none) mixed kR kR rfl ⟨rfl, rfl⟩ (Gr.drew _ _)<|qw (fun w hw => R.loadAgg (k := 3) (vs := acc.cells) ag50 rfl (hA.grN hw) (Nat.le_refl 3) rfl) rfl<|prq 1 rfl<|Wq.callM rfl (io x hmem _ _ _ hrx) (fun w hw => hrx.grN hw) (fun w u w' hw hv => ⟨hv.1, Gr.trans hw hv.2⟩) rfl<|Wq.enter (fun w hw => R.call en144 rfl) rfl rfl rfl (fun w hw => (Add_calls acc x.spec _ (by simp only [Tr.zero] at *; omega) (by simp only [Tr.zero] at *; omega) (by simp only [Tr.zero] at *; omega)).mono fun v w' hv => ⟨hv.1, Gr.trans hw hv.2⟩)<|Wq.last (fun w hw => R.move rfl) rfl rfl fun w hw => ?_
   have hB := hB.grN hw
   have hR := hR.grN hw
   have hA := hA.grN hw
   have hS := hS.grN hw
   have hG := hG.trans hw
   refine W.storeAll ag50 rfl rfl hA rfl rfl (Tr.cells_one _) fun w hA hs => ?_
   have hB := hB.gr hs au
   have hR := hR.gr hs au
   have hS := hS.gr hs au
   have hG := hG.fresh hs om
   refine nbs<|rR<|aK rfl rfl<|pr 1 rfl<|rN ?_
   rw [IS.specSum] at hE
   exact cT [(1, pP q1), (2, pP q2), (3, pP q3), (7, _), (8, .int .i64 (l.length : Int)), (9, .int .i64 ((i + 1 : Nat) : Int))] rfl ⟨r.length, by simp only [List.length_cons] at hm; omega, i + 1, acc.add x.spec, r, rfl, hB, hR, hS, hG, hA, hdr2, by simp only [List.length_cons] at hir; omega, hE, by simp only [Tr.add]; omega, by simp only [Tr.add]; omega, by simp only [Tr.add]; omega, rfl⟩
  refine rE<|rX<|rX<|rY ?_
  obtain rfl : r = [] := List.length_eq_zero_iff.1 om
  rw [IS.specSum] at hE
  subst hE
  exact cT [(1, pP q1), (2, pP q2), (3, pP q3)] rfl ⟨rfl, hB, hR, hS, hG, hA⟩
 rintro l w ⟨rfl, hB, hR, hS, hG, hA⟩
 obtain ⟨sm1, sm2, sm3⟩ := IS.specSum_le l Tr.zero 0 (by unfold Tr.Le Tr.zero; simp)
 refine qqr<|fA fo105_1 rfl<|lD sc9 hB rfl rfl<|qq (R.neS rfl rfl) rfl<|ns<|cD rfl (fun h2 => ?_) fun h2 => ?_
 ·refine rR<|qq (R.loadAgg (k := 3) (vs := (IS.specSum Tr.zero l).cells) ag50 rfl hA (Nat.le_refl 3) rfl) rfl<|qq (R.build (vs := (⟨0, 0, 1⟩ : Tr).cells) (ps := [(0, .int .i64 0), (1, .int .i64 0), (2, .int .i64 1)]) (fun a ha => by simp [Act.eval]) kR) rfl<|eN en144 rfl (Add_calls (IS.specSum Tr.zero l) ⟨0, 0, 1⟩ _ (by simp only [Tr.zero] at *; omega) (by simp only [Tr.zero] at *; omega) (by simp only [Tr.zero] at *; omega)) fun v w hv => ?_
  obtain ⟨rfl, hv⟩ := hv
  have hB := hB.grN hv
  have hR := hR.grN hv
  have hA := hA.grN hv
  have hS := hS.grN hv
  have hG := hG.trans hv
  refine W.storeAll ag50 rfl rfl hA rfl rfl (Tr.cells_one _) fun w hA hs => ?_
  have hB := hB.gr hs au
  have hR := hR.gr hs au
  have hS := hS.gr hs au
  have hG := hG.fresh hs om
  refine nsqr<|qq (R.loadAgg (k := 3) (vs := ((IS.specSum Tr.zero l).add ⟨0, 0, 1⟩).cells) ag50 rfl hA (Nat.le_refl 3) rfl) rfl<|W.storeAll ag50 rfl rfl hR rfl rfl (Tr.cells_one _) fun w hR hs => ?_
  have hB := hB.gr hs au
  have hA := hA.gr hs au
  have hS := hS.gr hs au
  have hG := hG.fresh hs om
  refine nst<|At.resCell rfl rfl (loadVar_agg ag50 hR rfl) ⟨?_, hG⟩
  rw [IS.spec, if_neg aM]
 refine ksqr<|qq (R.loadAgg (k := 3) (vs := (IS.specSum Tr.zero l).cells) ag50 rfl hA (Nat.le_refl 3) rfl) rfl<|W.storeAll ag50 rfl rfl hR rfl rfl (Tr.cells_one _) fun w hR hs => ?_
 have hB := hB.gr hs au
 have hA := hA.gr hs au
 have hS := hS.gr hs au
 have hG := hG.fresh hs om
 refine nst<|At.resCell rfl rfl (loadVar_agg ag50 hR rfl) ⟨?_, hG⟩
 rw [IS.spec, if_pos (Decidable.not_not.1 aM)]
theorem relSpec_calls (F : Nat → Prop) (l : List IS) (nm : List UInt8) (va : Option Addr) (vc : Nat) (w0 : World) (hS : SLs F w0 l (.slice va l.length vc)) (io : ∀ x ∈ l, SpecOk x) (hw : IS.wtL l ≤ 1000000000) :
 CR PR 168 [.agg [str nm, .slice va l.length vc].toArray] w0 fun v w' => v = .agg (IS.spec (.rel nm l)).cells.toArray ∧ Gr w0 w' none := by
 have hS : SLB w0.heap.size w0 l (.slice va l.length vc) := hS.bel
 have hlw := IS.wtL_len l
 have hG : Gr w0 w0 none := Gr.refl _ _
 refine CR.of (n := 22) [(0, .agg [str nm, .slice va l.length vc].toArray)] Tryz.func168 rfl Tryz.ntmps168 rfl ⟨rfl, trivial⟩<|qr<|W.box (vs := [str nm, .slice va l.length vc]) rfl rfl rfl fun w q1 hq1 hB hv => ?_
 have hS := hS.grN hv
 have hG := hG.trans hv
 have hl_q2_q1 := hB.lt
 have hz_q2 := hG.size
 refine W.alloc z50 rfl fun w q2 hq2 hR hv => ?_
 have hS := hS.grN hv
 have hB := hB.grN hv
 have hG := hG.trans hv
 refine nsqr ?_
 have hl_q3_q1 := hB.lt
 have hl_q3_q2 := hR.lt
 have hz_q3 := hG.size
 refine W.alloc z50 rfl fun w q3 hq3 hA hv => ?_
 have hS := hS.grN hv
 have hB := hB.grN hv
 have hR := hR.grN hv
 have hG := hG.trans hv
 refine ns<|C.cut (fun l' w' => l' = [(2, pP q2), (3, pP q3)] ∧ Blk w' q1 114 [str nm, .slice va l.length vc] ∧ Blk w' q2 50 Tr.zero.cells ∧ SLB w0.heap.size w' l (.slice va l.length vc) ∧ Gr w0 w' none ∧ Blk w' q3 50 (IS.specMax Tr.zero l).cells) ?_ ?_
 ·refine qr<|fA fo114_1 rfl<|lD sc42 hB rfl rfl<|qq (R.lenL rfl slq42) rfl<|pr 1 rfl<|ns<|rO<|sB [(1, pP q1), (2, pP q2), (3, pP q3), (8, .slice va l.length vc), (9, .int .i64 (l.length : Int)), (10, .int .i64 ((0 : Nat) : Int))] rfl<|C.loop (fun m l' w' => ∃ (i : Nat) (acc : Tr) (r : List IS), l' = [(1, pP q1), (2, pP q2), (3, pP q3), (8, .slice va l.length vc), (9, .int .i64 (l.length : Int)), (10, .int .i64 (i : Int))] ∧ Blk w' q1 114 [str nm, .slice va l.length vc] ∧ Blk w' q2 50 Tr.zero.cells ∧ SLB w0.heap.size w' l (.slice va l.length vc) ∧ Gr w0 w' none ∧ Blk w' q3 50 acc.cells ∧ l.drop i = r ∧ i + r.length = l.length ∧ IS.specMax acc r = IS.specMax Tr.zero l ∧ m = r.length) (l.length) (⟨0, Tr.zero, l, rfl, hB, hR, hS, hG, hA, rfl, om, rfl, rfl⟩) ?_
  rintro m l w ⟨i, acc, r, rfl, hB, hR, hS, hG, hA, hdr, hir, hE, hm⟩
  refine qr<|qq (R.ltI rfl rfl) rfl<|nsq<|cD rfl (fun h1 => ?_) fun h1 => ?_
  ·refine ksq<|rO<|rQ ?_
   obtain ⟨x, r, rfl⟩ : ∃ x r', r = x :: r' := by
    cases r with
    | nil => simp at hir; omega
    | cons x r => exact ⟨x, r, rfl⟩
   obtain ⟨hix, hmem, hdr2, hil⟩ := mem_drop hdr
   obtain ⟨xb, xc, xv, hxe, hxc, hrx⟩ := hS.get i x hix
   injection hxe with hxe1 hxe2 hxe3
   subst hxe1 hxe3
   obtain ⟨xt, xu, rfl⟩ := Rep.ifc hrx
   obtain ⟨sx1, sx2, sx3⟩ := IS.spec_le x
   refine rR<|qq (R.idxA rfl rfl i rfl hil sl42) rfl<|qq (R.loadC sc48 rfl hxc) rfl<|pr 1 rfl<|nsqr<|pr 1 rfl<|W.callM rfl (io x hmem _ _ _ hrx) (hrx) rfl fun v w hv => ?_
   obtain ⟨rfl, hv⟩ := hv
   have hB := hB.grN hv
   have hR := hR.grN hv
   have hA := hA.grN hv
   have hS := hS.grN hv
   have hG := hG.trans hv
   have hl_q6_q1 := hB.lt
   have hl_q6_q2 := hR.lt
   have hl_q6_q3 := hA.lt
   have hz_q6 := hG.size
   refine W.alloc z50 rfl fun w q6 hq6 hX hv => ?_
   have hB := hB.grN hv
   have hR := hR.grN hv
   have hA := hA.grN hv
   have hS := hS.grN hv
   have hG := hG.trans hv
   refine W.storeAll ag50 rfl rfl hX rfl rfl (Tr.cells_one _) fun w hX hs => ?_
   have hB := hB.gr hs au
   have hR := hR.gr hs au
   have hA := hA.gr hs au
   have hS := hS.gr hs au
   have hG := hG.fresh hs om
   refine nsqr<|qq (R.loadAgg (k := 3) (vs := acc.cells) ag50 rfl hA (Nat.le_refl 3) rfl) rfl<|qq (R.loadAgg (k := 3) (vs := x.spec.cells) ag50 rfl hX (Nat.le_refl 3) rfl) rfl<|eN en138 rfl (Less_calls acc x.spec _) fun v w hv => ?_
   obtain ⟨rfl, hv⟩ := hv
   have hB := hB.grN hv
   have hR := hR.grN hv
   have hA := hA.grN hv
   have hS := hS.grN hv
   have hX := hX.grN hv
   have hG := hG.trans hv
   refine ns<|cC rfl (fun h2 => ?_) (fun h2 => ?_)
   ·try simp only [Bool.not_eq_true', Bool.not_eq_false'] at h2
    refine rR<|qq (R.loadAgg (k := 3) (vs := x.spec.cells) ag50 rfl hX (Nat.le_refl 3) rfl) rfl<|W.storeAll ag50 rfl rfl hA rfl rfl (Tr.cells_one _) fun w hA hs => ?_
    have hB := hB.gr hs au
    have hR := hR.gr hs au
    have hS := hS.gr hs au
    have hX := hX.gr hs au
    have hG := hG.fresh hs om
    refine nbs<|rR<|aK rfl rfl<|pr 1 rfl<|rN ?_
    rw [IS.specMax, if_pos aM] at hE
    exact cT [(1, pP q1), (2, pP q2), (3, pP q3), (8, _), (9, .int .i64 (l.length : Int)), (10, .int .i64 ((i + 1 : Nat) : Int))] rfl ⟨r.length, by simp only [List.length_cons] at hm; omega, i + 1, x.spec, r, rfl, hB, hR, hS, hG, hA, hdr2, by simp only [List.length_cons] at hir; omega, hE, rfl⟩
   try simp only [Bool.not_eq_true', Bool.not_eq_false'] at h2
   refine rK<|bS<|rR<|aK rfl rfl<|pr 1 rfl<|rN ?_
   rw [IS.specMax, if_neg (by simp [*])] at hE
   exact cT [(1, pP q1), (2, pP q2), (3, pP q3), (8, _), (9, .int .i64 (l.length : Int)), (10, .int .i64 ((i + 1 : Nat) : Int))] rfl ⟨r.length, by simp only [List.length_cons] at hm; omega, i + 1, acc, r, rfl, hB, hR, hS, hG, hA, hdr2, by simp only [List.length_cons] at hir; omega, hE, rfl⟩
  refine rE<|rX<|rX<|rY ?_
  obtain rfl : r = [] := List.length_eq_zero_iff.1 om
  rw [IS.specMax] at hE
  subst hE
  exact cT [(2, pP q2), (3, pP q3)] rfl ⟨rfl, hB, hR, hS, hG, hA⟩
 rintro l w ⟨rfl, hB, hR, hS, hG, hA⟩
 refine qr<|qq (R.loadAgg (k := 3) (vs := (IS.specMax Tr.zero l).cells) ag50 rfl hA (Nat.le_refl 3) rfl) rfl<|W.storeAll ag50 rfl rfl hR rfl rfl (Tr.cells_one _) fun w hR hs => ?_
 have hB := hB.gr hs au
 have hA := hA.gr hs au
 have hS := hS.gr hs au
 have hG := hG.fresh hs om
 refine nst<|At.resCell rfl rfl (loadVar_agg ag50 hR rfl) ⟨?_, hG⟩
 rw [IS.spec]
end Go.Proofs.YtogfnbkccfkpoaaGreatDoor
