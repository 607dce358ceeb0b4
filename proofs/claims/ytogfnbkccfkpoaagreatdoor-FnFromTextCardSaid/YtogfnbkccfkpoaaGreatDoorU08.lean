/- A part (8) of the proof of the row of laws.FnFromText: lemmas on Spf, ImM, ImL, Par, ImA. No condition but what each statement says. -/
import Derived.Test.YtogfnbkccfkpoaaGreatDoorU07
import Derived.Lib.BufferWrite
import Derived.Deep.OwnRows
set_option linter.unusedSimpArgs false
set_option linter.unusedVariables false
set_option maxRecDepth 100000
namespace Go.Proofs.YtogfnbkccfkpoaaGreatDoor
open Go Go.RowKit
open Eng
def Pl (base : Nat) (w : World) (v : Value) (n : Nat) (xs : List Value) : Prop := w.ownsRow base 3 1 v n xs
theorem Pl.gr {base : Nat} {w w' : World} {v : Value} {n : Nat} {xs : List Value} {r : Option Nat} (h : Pl base w v n xs) (hg : Gr w w' r) (hn : ∀ b, r = some b → b < base) : Pl base w' v n xs := by
 cases r with
 | none => exact own_grN h hg
 | some b => exact own_gr h hg (hn b rfl)
theorem Sp.specy_eq (T : ST) : Sp.specy T = if T.top.kind = 1 then Tr.zero else if T.top.kind = 2 then ⟨0, 0, 1⟩ else if T.top.kind = 4 then ⟨1, 0, 0⟩
 else if T.top.kind = 21 ∨ T.top.kind = 22 then (if T.top.kind = 21 ∧ ¬ T.top.val = [] then (Sp.sumL Tr.zero T.kids).add ⟨0, 0, 1⟩ else Sp.sumL Tr.zero T.kids)
 else if T.top.kind = 18 ∨ T.top.kind = 19 ∨ T.top.kind = 20 ∨ T.top.kind = 23 then Sp.maxL Tr.zero T.kids else ⟨0, 1, 0⟩ := by
 cases T with
 | node x l => rw [Sp.specy]; rfl
theorem Pl.grN {base : Nat} {w w' : World} {v : Value} {n : Nat} {xs : List Value} (h : Pl base w v n xs) (hg : Gr w w' none) : Pl base w' v n xs := own_grN h hg
theorem LessSpecific_calls (X Y : Tr) (w0 : World) :
 CR PR 23 [.agg X.cells.toArray, .agg Y.cells.toArray] w0 fun v w' => v = .bool (X.less Y) ∧ Gr w0 w' none := by
 have hG : Gr w0 w0 none := Gr.refl _ _
 refine CR.of (n := 24) [(0, .agg X.cells.toArray), (1, .agg Y.cells.toArray)] Tryz.func23 rfl Tryz.ntmps23 rfl ⟨rfl, rfl, trivial⟩<|qr<|W.box (vs := X.cells) rfl rfl rfl fun w qa hqa hA hv => ?_
 have hG := hG.trans hv
 refine W.box (vs := Y.cells) rfl rfl rfl fun w qb hqb hB hv => ?_
 have hA := hA.grN hv
 have hG := hG.trans hv
 refine pr 1 rfl<|nsq<|qr<|pr 1 rfl<|ns<|rO<|sB [(2, pP qa), (3, pP qb), (5, .int .i64 ((0 : Nat) : Int))] rfl<|C.loop (fun m l w' => ∃ j : Nat, l = [(2, pP qa), (3, pP qb), (5, .int .i64 (j : Int))] ∧ Blk w' qa 30 X.cells ∧ Blk w' qb 30 Y.cells ∧ Gr w0 w' none ∧ j + m = 3 ∧ (0 < j → X.a = Y.a) ∧ (1 < j → X.b = Y.b) ∧ (2 < j → X.c = Y.c)) (3) (⟨0, rfl, hA, hB, hG, om, om, om, om⟩) ?_
 rintro m l w ⟨j, rfl, hA, hB, hG, hm, hj0, hj1, hj2⟩
 refine qqr<|pr 1 rfl<|qq (R.ltI rfl rfl) rfl<|ns<|cD rfl (fun h1 => ?_) fun h1 => ?_
 ·refine ksq<|rO<|rQ ?_
  rcases (show j = 0 ∨ j = 1 ∨ j = 2 by omega) with rfl | rfl | rfl
  ·refine dR<|prq 1 rfl<|qw (fun w hw => R.idxP rfl rfl 0 rfl dC ar30) rfl<|lQ sc3 hA rfl rfl<|prq 1 rfl<|qw (fun w hw => R.idxP rfl rfl 0 rfl dC ar30) rfl<|lQ sc3 hB rfl rfl<|qw (fun w hw => R.neI rfl rfl) rfl<|Wq.nil fun w hw => ?_
   have hA := hA.grN hw
   have hB := hB.grN hw
   have hG := hG.trans hw
   refine rS<|cD rfl (fun h2 => ?_) fun h2 => ?_
   ·refine rQ<|dR<|prq 1 rfl<|qw (fun w hw => R.idxP rfl rfl 0 rfl dC ar30) rfl<|lQ sc3 hA rfl rfl<|prq 1 rfl<|qw (fun w hw => R.idxP rfl rfl 0 rfl dC ar30) rfl<|lQ sc3 hB rfl rfl<|qw (fun w hw => R.ltI rfl rfl) rfl<|prq 1 rfl<|Wq.nil fun w hw => ?_
    have hA := hA.grN hw
    have hB := hB.grN hw
    have hG := hG.trans hw
    refine rS<|rT<|rC<|rH<|rH<|rC<|rH<|rA rfl rfl ⟨?_, hG⟩
    rw [Tr.less, if_pos om]
    exact congrArg Value.bool (decide_eq_decide.2 om)
   exact rK<|bS<|rR<|pr 1 rfl<|qq (R.addK (a0 := 0) 1 rfl rfl dC) rfl<|pr 1 rfl<|rN<|cT [(2, pP qa), (3, pP qb), (5, .int .i64 ((0 + 1 : Nat) : Int))] rfl ⟨m - 1, om, 0 + 1, rfl, hA, hB, hG, om, om, om, om⟩
  ·refine dR<|prq 1 rfl<|qw (fun w hw => R.idxP rfl rfl 1 rfl dC ar30) rfl<|lQ sc3 hA rfl rfl<|prq 1 rfl<|qw (fun w hw => R.idxP rfl rfl 1 rfl dC ar30) rfl<|lQ sc3 hB rfl rfl<|qw (fun w hw => R.neI rfl rfl) rfl<|Wq.nil fun w hw => ?_
   have hA := hA.grN hw
   have hB := hB.grN hw
   have hG := hG.trans hw
   refine rS<|cD rfl (fun h3 => ?_) fun h3 => ?_
   ·refine rQ<|dR<|prq 1 rfl<|qw (fun w hw => R.idxP rfl rfl 1 rfl dC ar30) rfl<|lQ sc3 hA rfl rfl<|prq 1 rfl<|qw (fun w hw => R.idxP rfl rfl 1 rfl dC ar30) rfl<|lQ sc3 hB rfl rfl<|qw (fun w hw => R.ltI rfl rfl) rfl<|prq 1 rfl<|Wq.nil fun w hw => ?_
    have hA := hA.grN hw
    have hB := hB.grN hw
    have hG := hG.trans hw
    refine rS<|rT<|rC<|rH<|rH<|rC<|rH<|rA rfl rfl ⟨?_, hG⟩
    rw [Tr.less, if_neg om, if_pos om]
    exact congrArg Value.bool (decide_eq_decide.2 om)
   exact rK<|bS<|rR<|pr 1 rfl<|qq (R.addK (a0 := 1) 1 rfl rfl dC) rfl<|pr 1 rfl<|rN<|cT [(2, pP qa), (3, pP qb), (5, .int .i64 ((1 + 1 : Nat) : Int))] rfl ⟨m - 1, om, 1 + 1, rfl, hA, hB, hG, om, om, om, om⟩
  refine dR<|prq 1 rfl<|qw (fun w hw => R.idxP rfl rfl 2 rfl dC ar30) rfl<|lQ sc3 hA rfl rfl<|prq 1 rfl<|qw (fun w hw => R.idxP rfl rfl 2 rfl dC ar30) rfl<|lQ sc3 hB rfl rfl<|qw (fun w hw => R.neI rfl rfl) rfl<|Wq.nil fun w hw => ?_
  have hA := hA.grN hw
  have hB := hB.grN hw
  have hG := hG.trans hw
  refine rS<|cD rfl (fun h4 => ?_) fun h4 => ?_
  ·refine rQ<|dR<|prq 1 rfl<|qw (fun w hw => R.idxP rfl rfl 2 rfl dC ar30) rfl<|lQ sc3 hA rfl rfl<|prq 1 rfl<|qw (fun w hw => R.idxP rfl rfl 2 rfl dC ar30) rfl<|lQ sc3 hB rfl rfl<|qw (fun w hw => R.ltI rfl rfl) rfl<|prq 1 rfl<|Wq.nil fun w hw => ?_
   have hA := hA.grN hw
   have hB := hB.grN hw
   have hG := hG.trans hw
   refine rS<|rT<|rC<|rH<|rH<|rC<|rH<|rA rfl rfl ⟨?_, hG⟩
   rw [Tr.less, if_neg om, if_neg om, if_pos om]
   exact congrArg Value.bool (decide_eq_decide.2 om)
  exact rK<|bS<|rR<|pr 1 rfl<|qq (R.addK (a0 := 2) 1 rfl rfl dC) rfl<|pr 1 rfl<|rN<|cT [(2, pP qa), (3, pP qb), (5, .int .i64 ((2 + 1 : Nat) : Int))] rfl ⟨m - 1, om, 2 + 1, rfl, hA, hB, hG, om, om, om, om⟩
 refine rE<|rX<|rX<|rY<|sqr<|pr 1 rfl<|nst<|rA rfl rfl ⟨?_, hG⟩
 rw [Tr.less, if_neg om, if_neg om, if_neg om]
theorem specificity_step (b off mx cap at0 : Nat) (T : ST) (w0 : World) (hN : NodesAt w0 b (off + at0 * 8) T.enc) (hm0 : at0 + T.cnt ≤ mx) (hb : mx ≤ 90000) (ih : ∀ (t : ST) (k : Nat) (w : World), t.cnt < T.cnt → NodesAt w b (off + k * 8) t.enc → k + t.cnt ≤ mx → CR PR 15 [.slice (some ⟨b, off, none⟩) mx cap, .int .i64 (k : Int)] w fun v w' => v = .agg (Sp.specy t).cells.toArray ∧ Gr w w' none) :
 CR PR 15 [.slice (some ⟨b, off, none⟩) mx cap, .int .i64 (at0 : Int)] w0 fun v w' => v = .agg (Sp.specy T).cells.toArray ∧ Gr w0 w' none := by
 have hcp := ST.cnt_pos T
 have hbl0 := hN.blk
 have hG : Gr w0 w0 none := Gr.refl _ _
 refine CR.of (n := 93) [(0, .slice (some ⟨b, off, none⟩) mx cap), (1, .int .i64 (at0 : Int))] Tryz.func15 rfl Tryz.ntmps15 rfl ⟨rfl, rfl, trivial⟩<|qr ?_
 have hbn_q4 := hN.blk
 have hz_q4 := hG.size
 refine W.alloc z30 rfl fun w q4 hqz_q4 hR hv => ?_
 have hN := hN.grN hv
 have hG := hG.trans hv
 refine nsqr<|qq (R.build (vs := Tr.zero.cells) (ps := []) (fun a ha => by simp) kR) rfl ?_
 have hl_q5_q4 := hR.lt
 have hbn_q5 := hN.blk
 have hz_q5 := hG.size
 refine W.alloc z30 rfl fun w q5 hqz_q5 hA hv => ?_
 have hN := hN.grN hv
 have hR := hR.grN hv
 have hG := hG.trans hv
 refine W.storeAll ag30 rfl rfl hA rfl rfl (Tr.cells_one _) fun w hA hs => ?_
 have hN := hN.gr hs au
 have hR := hR.gr hs au
 have hG := hG.fresh hs om
 refine nsqr<|pr 2 rfl<|eN en22 rfl (SelKids_calls b off mx cap at0 T _ hN om hb) fun v w hv => ?_
 obtain ⟨hPl, hv⟩ := hv
 have hG := hG.trans hv
 obtain ⟨pa, pc, rfl⟩ := own_any hPl
 have hPl : Pl (q5 + 1) w (.slice pa T.kids.length pc) T.kids.length (places (at0 + 1) T.kids) := own_mono hPl hA.lt
 have hN := hN.gr hv au
 have hR := hR.gr hv au
 have hA := hA.gr hv au
 refine pr 1 rfl<|nsq<|qr<|pr 2 rfl<|qq (R.idxA rfl rfl _ rfl om sl22) rfl<|qq (R.loadAggC (vs := T.top.cells T.cnt) ag53 rfl hN.top rfl) rfl ?_
 have hl_q7_q4 := hR.lt
 have hl_q7_q5 := hA.lt
 have hpn_q7 := own_old hPl (Nat.le_refl _)
 have hbn_q7 := hN.blk
 have hz_q7 := hG.size
 refine W.alloc z53 rfl fun w q7 hqz_q7 hX hv => ?_
 have hN := hN.grN hv
 have hR := hR.grN hv
 have hA := hA.grN hv
 have hPl := hPl.grN hv
 have hG := hG.trans hv
 rw [← hqz_q7] at hpn_q7
 refine W.storeAll ag53 rfl rfl hX rfl rfl (SelN.cells_one _ _) fun w hX hs => ?_
 have hN := hN.gr hs au
 have hR := hR.gr hs au
 have hA := hA.gr hs au
 have hPl : Pl _ _ _ _ _ := own_kept hPl hs hpn_q7
 have hG := hG.fresh hs om
 refine nsqr<|fA fo53_0 rfl<|lD sc3 hX rfl rfl<|ns<|rO<|qr<|qq (R.eqI rfl rfl) rfl<|pr 1 rfl<|ns<|cD rfl (fun h1 => ?_) fun h1 => ?_
 ·refine rK<|bS<|rQ ?_
  have hT : Sp.specy T = Tr.zero := by
   rw [Sp.specy_eq, if_pos om]
  have hA : Blk w q5 30 (Sp.specy T).cells := by rw [hT]; exact hA
  refine rR<|qq (R.loadAgg (k := 3) (vs := (Sp.specy T).cells) ag30 rfl hA (Nat.le_refl 3) rfl) rfl<|W.storeAll ag30 rfl rfl hR rfl rfl (Tr.cells_one _) fun w hR hs => ?_
  have hG := hG.fresh hs om
  exact nst<|At.resCell rfl rfl (loadVar_agg ag30 hR rfl) ⟨rfl, hG⟩
 refine qr<|qq (R.eqI rfl rfl) rfl<|pr 1 rfl<|ns<|cD rfl (fun h2 => ?_) fun h2 => ?_
 ·refine rR<|qq (R.idxP rfl rfl 2 rfl dC ar30) rfl<|sT sc3 hA rfl fun w hA hs => ?_
  have hN := hN.gr hs au
  have hR := hR.gr hs au
  have hPl := hPl.gr hs au
  have hX := hX.gr hs au
  have hG := hG.fresh hs om
  refine nbs<|rQ ?_
  have hT : Sp.specy T = ⟨0, 0, 1⟩ := by
   rw [Sp.specy_eq, if_neg om, if_pos om]
  have hA : Blk w q5 30 (Sp.specy T).cells := by rw [hT]; exact hA
  refine rR<|qq (R.loadAgg (k := 3) (vs := (Sp.specy T).cells) ag30 rfl hA (Nat.le_refl 3) rfl) rfl<|W.storeAll ag30 rfl rfl hR rfl rfl (Tr.cells_one _) fun w hR hs => ?_
  have hG := hG.fresh hs om
  exact nst<|At.resCell rfl rfl (loadVar_agg ag30 hR rfl) ⟨rfl, hG⟩
 refine qr<|qq (R.eqI rfl rfl) rfl<|pr 1 rfl<|ns<|cD rfl (fun h3 => ?_) fun h3 => ?_
 ·refine rR<|qq (R.idxP rfl rfl 0 rfl dC ar30) rfl<|sT sc3 hA rfl fun w hA hs => ?_
  have hN := hN.gr hs au
  have hR := hR.gr hs au
  have hPl := hPl.gr hs au
  have hX := hX.gr hs au
  have hG := hG.fresh hs om
  refine nbs<|rQ ?_
  have hT : Sp.specy T = ⟨1, 0, 0⟩ := by
   rw [Sp.specy_eq, if_neg om, if_neg om, if_pos om]
  have hA : Blk w q5 30 (Sp.specy T).cells := by rw [hT]; exact hA
  refine rR<|qq (R.loadAgg (k := 3) (vs := (Sp.specy T).cells) ag30 rfl hA (Nat.le_refl 3) rfl) rfl<|W.storeAll ag30 rfl rfl hR rfl rfl (Tr.cells_one _) fun w hR hs => ?_
  have hG := hG.fresh hs om
  exact nst<|At.resCell rfl rfl (loadVar_agg ag30 hR rfl) ⟨rfl, hG⟩
 refine C.cut (fun l w' => ∃ bb : Bool, l = [(0, .slice (some ⟨b, off, none⟩) mx cap), (1, .int .i64 (at0 : Int)), (4, pP q4), (5, pP q5), (6, .slice pa T.kids.length pc), (7, pP q7), (22, .int .i64 (T.top.kind : Int)), (32, .bool bb)] ∧ NodesAt w' b (off + at0 * 8) T.enc ∧ Blk w' q4 30 Tr.zero.cells ∧ Blk w' q5 30 Tr.zero.cells ∧ Pl (q5 + 1) w' (.slice pa T.kids.length pc) T.kids.length (places (at0 + 1) T.kids) ∧ Blk w' q7 53 (T.top.cells T.cnt) ∧ Gr w0 w' none ∧ (bb = true → T.top.kind = 21 ∨ T.top.kind = 22) ∧ (bb = false → ¬ T.top.kind = 21 ∧ ¬ T.top.kind = 22)) ?_ ?_
 ·refine qr<|qq (R.eqI rfl rfl) rfl<|pr 1 rfl<|ns<|cD rfl (fun h4 => ?_) fun h4 => ?_
  ·have h4i := h4
   rw [decide_eq_true h4i]
   refine rK ?_
   exact cT [(0, .slice (some ⟨b, off, none⟩) mx cap), (1, .int .i64 (at0 : Int)), (4, pP q4), (5, pP q5), (6, .slice pa T.kids.length pc), (7, pP q7), (22, .int .i64 (T.top.kind : Int)), (32, .bool true)] rfl ⟨true, rfl, hN, hR, hA, hPl, hX, hG, (fun _ => by omega), (fun h => by cases h)⟩
  have h4i := h4
  rw [decide_eq_false h4i]
  refine rR<|W.split (R.eqI rfl rfl) rfl rfl rfl (fun h5 => ?_) (fun h5 => ?_)
  ·refine pr 1 rfl<|rN ?_
   exact cT [(0, .slice (some ⟨b, off, none⟩) mx cap), (1, .int .i64 (at0 : Int)), (4, pP q4), (5, pP q5), (6, .slice pa T.kids.length pc), (7, pP q7), (22, .int .i64 (T.top.kind : Int)), (32, .bool true)] rfl ⟨true, rfl, hN, hR, hA, hPl, hX, hG, (fun _ => by omega), (fun h => by cases h)⟩
  refine pr 1 rfl<|rN ?_
  exact cT [(0, .slice (some ⟨b, off, none⟩) mx cap), (1, .int .i64 (at0 : Int)), (4, pP q4), (5, pP q5), (6, .slice pa T.kids.length pc), (7, pP q7), (22, .int .i64 (T.top.kind : Int)), (32, .bool false)] rfl ⟨false, rfl, hN, hR, hA, hPl, hX, hG, (fun h => by cases h), (fun _ => by omega)⟩
 rintro l w ⟨bb, rfl, hN, hR, hA, hPl, hX, hG, hbb1, hbb2⟩
 refine cC rfl (fun h6 => ?_) (fun h6 => ?_)
 ·try simp only [Bool.not_eq_true', Bool.not_eq_false'] at h6
  subst h6
  refine rQ<|rQ ?_
  have hk21 := hbb1 rfl
  refine rR<|pr 1 rfl<|ns<|rO<|sB [(0, .slice (some ⟨b, off, none⟩) mx cap), (1, .int .i64 (at0 : Int)), (4, pP q4), (5, pP q5), (6, .slice pa T.kids.length pc), (7, pP q7), (8, .int .i64 ((0 : Nat) : Int))] rfl<|C.loop (fun m l w' => ∃ (i k : Nat) (acc : Tr) (r : List ST), l = [(0, .slice (some ⟨b, off, none⟩) mx cap), (1, .int .i64 (at0 : Int)), (4, pP q4), (5, pP q5), (6, .slice pa T.kids.length pc), (7, pP q7), (8, .int .i64 (i : Int))] ∧ NodesAt w' b (off + at0 * 8) T.enc ∧ Blk w' q4 30 Tr.zero.cells ∧ Blk w' q5 30 acc.cells ∧ Pl (q5 + 1) w' (.slice pa T.kids.length pc) T.kids.length (places (at0 + 1) T.kids) ∧ Blk w' q7 53 (T.top.cells T.cnt) ∧ Gr w0 w' none ∧ NodesAt w' b (off + k * 8) (ST.encL r) ∧ i + r.length = T.kids.length ∧ (places (at0 + 1) T.kids).drop i = places k r ∧ k + ST.cntL r = at0 + T.cnt ∧ Sp.sumL acc r = Sp.sumL Tr.zero T.kids ∧ acc.a + ST.cntL r ≤ T.cnt ∧ acc.b + ST.cntL r ≤ T.cnt ∧ acc.c + ST.cntL r ≤ T.cnt ∧ m = r.length ∧ at0 < k) (T.kids.length) (⟨0, at0 + 1, Tr.zero, T.kids, rfl, hN, hR, hA, hPl, hX, hG, hN.kids.cast om, om, rfl, by rw [ST.cnt_eq T]; omega, rfl, by rw [ST.cnt_eq T]; simp only [Tr.zero]; omega, by rw [ST.cnt_eq T]; simp only [Tr.zero]; omega, by rw [ST.cnt_eq T]; simp only [Tr.zero]; omega, rfl, om⟩) ?_
  rintro m l w ⟨i, k, acc, r, rfl, hN, hR, hA, hPl, hX, hG, hRr, hir, hdp, hk, hE, ha1, ha2, ha3, hm, hak⟩
  refine qqr<|pr 2 rfl<|qq (R.lenL rfl slq54) rfl<|qq (R.ltI rfl rfl) rfl<|ns<|cD rfl (fun h7 => ?_) fun h7 => ?_
  ·refine ksq<|rO<|rQ ?_
   obtain ⟨t, r, rfl⟩ : ∃ t r2, r = t :: r2 := by
    cases r with
    | nil => simp only [List.length_nil] at hir; omega
    | cons t r2 => exact ⟨t, r2, rfl⟩
   have hK := hRr.head
   have hRr := hRr.tail
   have hct := ST.cnt_eq T
   rw [ST.cntL] at hk ha1 ha2 ha3
   rw [places] at hdp
   have hdp := drop_cons hdp
   obtain ⟨kb0, kc0, hq0⟩ := own_slice (n := T.kids.length) hPl om
   injection hq0 with hq0 hq1 hq2
   subst hq0 hq2
   have hcell := NodesAt.of_own hPl _ _ hdp.1
   rw [Nat.zero_add] at hcell
   have hkl := ST.cntL_len T.kids
   have hsy := Sp.specy_le t
   simp only [List.length_cons] at hir hm
   refine rR<|pr 3 rfl<|qq (R.idxB rfl rfl i rfl om sl54) rfl<|qq (R.loadC sc3 rfl hcell) rfl<|eN en15 rfl (ih t k _ om hK om) fun v w hv => ?_
   obtain ⟨rfl, hv⟩ := hv
   have hG := hG.trans hv
   have hK := hK.grN hv
   have hRr := hRr.grN hv
   have hN := hN.gr hv au
   have hR := hR.gr hv au
   have hA := hA.gr hv au
   have hPl := hPl.gr hv au
   have hX := hX.gr hv au
   have hl_q9_q4 := hR.lt
   have hl_q9_q5 := hA.lt
   have hl_q9_q7 := hX.lt
   have hpn_q9 := own_old hPl (Nat.le_refl _)
   have hbn_q9 := hN.blk
   have hz_q9 := hG.size
   refine W.alloc z30 rfl fun w q9 hqz_q9 hY hv => ?_
   have hN := hN.grN hv
   have hR := hR.grN hv
   have hA := hA.grN hv
   have hPl := hPl.grN hv
   have hX := hX.grN hv
   have hG := hG.trans hv
   rw [← hqz_q9] at hpn_q9
   have hRr := hRr.grN hv
   refine W.storeAll ag30 rfl rfl hY rfl rfl (Tr.cells_one _) fun w hY hs => ?_
   have hN := hN.gr hs au
   have hR := hR.gr hs au
   have hA := hA.gr hs au
   have hPl : Pl _ _ _ _ _ := own_kept hPl hs hpn_q9
   have hX := hX.gr hs au
   have hG := hG.fresh hs om
   have hRr := hRr.gr hs sM
   refine nsqr<|pr 1 rfl<|ns<|rO<|sB [(0, .slice (some ⟨b, off, none⟩) mx cap), (1, .int .i64 (at0 : Int)), (4, pP q4), (5, pP q5), (6, .slice (some ⟨kb0, 0, none⟩) T.kids.length pc), (7, pP q7), (8, .int .i64 (i : Int)), (9, pP q9), (10, .int .i64 ((0 : Nat) : Int))] rfl<|C.loop (fun m' l w' => ∃ j : Nat, l = [(0, .slice (some ⟨b, off, none⟩) mx cap), (1, .int .i64 (at0 : Int)), (4, pP q4), (5, pP q5), (6, .slice (some ⟨kb0, 0, none⟩) T.kids.length pc), (7, pP q7), (8, .int .i64 (i : Int)), (9, pP q9), (10, .int .i64 (j : Int))] ∧ NodesAt w' b (off + at0 * 8) T.enc ∧ Blk w' q4 30 Tr.zero.cells ∧ Blk w' q5 30 (Tr.mix j acc (Sp.specy t)).cells ∧ Pl (q5 + 1) w' (.slice (some ⟨kb0, 0, none⟩) T.kids.length pc) T.kids.length (places (at0 + 1) T.kids) ∧ Blk w' q7 53 (T.top.cells T.cnt) ∧ Gr w0 w' none ∧ NodesAt w' b (off + k * 8 + t.cnt * 8) (ST.encL r) ∧ Blk w' q9 30 (Sp.specy t).cells ∧ j + m' = 3) (3) (⟨0, rfl, hN, hR, hA, hPl, hX, hG, hRr, hY, om⟩) ?_
   rintro m l w ⟨j, rfl, hN, hR, hA, hPl, hX, hG, hRr, hY, hm2⟩
   refine qqr<|pr 1 rfl<|qq (R.ltI rfl rfl) rfl<|ns<|cD rfl (fun h8 => ?_) fun h8 => ?_
   ·refine ksq<|rO ?_
    rcases (show j = 0 ∨ j = 1 ∨ j = 2 by omega) with rfl | rfl | rfl
    ·have hA : Blk _ q5 30 [.int .i64 ((acc.a : Nat) : Int), .int .i64 ((acc.b : Nat) : Int), .int .i64 ((acc.c : Nat) : Int)] := hA
     refine C.drawSt (fun w' => Gr _ w' none) mixed kR kR rfl ⟨rfl, rfl⟩ (Gr.drew _ _)<|prq 1 rfl<|qw (fun w hw => R.idxP rfl rfl 0 rfl dC ar30) rfl<|lQ sc3 hA rfl rfl<|prq 1 rfl<|qw (fun w hw => R.idxP rfl rfl 0 rfl dC ar30) rfl<|lQ sc3 hY rfl rfl<|qw (fun w hw => R.addN rfl rfl om) rfl<|qw (fun w hw => R.idxP rfl rfl 0 rfl dC ar30) rfl<|Wq.last (fun w hw => R.move rfl) rfl rfl fun w hw => ?_
     have hN := hN.grN hw
     have hR := hR.grN hw
     have hA := hA.grN hw
     have hPl := hPl.grN hw
     have hX := hX.grN hw
     have hY := hY.grN hw
     have hG := hG.trans hw
     refine sT sc3 hA rfl fun w hA hs => ?_
     have hN := hN.gr hs au
     have hR := hR.gr hs au
     have hPl := hPl.gr hs au
     have hX := hX.gr hs au
     have hY := hY.gr hs au
     have hG := hG.fresh hs om
     refine rN ?_
     have hRr := (hRr.grN hw).gr hs sM
     exact bS<|rR<|pr 1 rfl<|qq (R.addK (a0 := 0) 1 rfl rfl dC) rfl<|pr 1 rfl<|rN<|cT [(0, .slice (some ⟨b, off, none⟩) mx cap), (1, .int .i64 (at0 : Int)), (4, pP q4), (5, pP q5), (6, .slice (some ⟨kb0, 0, none⟩) T.kids.length pc), (7, pP q7), (8, .int .i64 (i : Int)), (9, pP q9), (10, .int .i64 ((0 + 1 : Nat) : Int))] rfl ⟨m - 1, om, 0 + 1, rfl, hN, hR, hA, hPl, hX, hG, hRr, hY, om⟩
    ·have hA : Blk _ q5 30 [.int .i64 ((acc.a + (Sp.specy t).a : Nat) : Int), .int .i64 ((acc.b : Nat) : Int), .int .i64 ((acc.c : Nat) : Int)] := hA
     refine C.drawSt (fun w' => Gr _ w' none) mixed kR kR rfl ⟨rfl, rfl⟩ (Gr.drew _ _)<|prq 1 rfl<|qw (fun w hw => R.idxP rfl rfl 1 rfl dC ar30) rfl<|lQ sc3 hA rfl rfl<|prq 1 rfl<|qw (fun w hw => R.idxP rfl rfl 1 rfl dC ar30) rfl<|lQ sc3 hY rfl rfl<|qw (fun w hw => R.addN rfl rfl om) rfl<|qw (fun w hw => R.idxP rfl rfl 1 rfl dC ar30) rfl<|Wq.last (fun w hw => R.move rfl) rfl rfl fun w hw => ?_
     have hN := hN.grN hw
     have hR := hR.grN hw
     have hA := hA.grN hw
     have hPl := hPl.grN hw
     have hX := hX.grN hw
     have hY := hY.grN hw
     have hG := hG.trans hw
     refine sT sc3 hA rfl fun w hA hs => ?_
     have hN := hN.gr hs au
     have hR := hR.gr hs au
     have hPl := hPl.gr hs au
     have hX := hX.gr hs au
     have hY := hY.gr hs au
     have hG := hG.fresh hs om
     refine rN ?_
     have hRr := (hRr.grN hw).gr hs sM
     exact bS<|rR<|pr 1 rfl<|qq (R.addK (a0 := 1) 1 rfl rfl dC) rfl<|pr 1 rfl<|rN<|cT [(0, .slice (some ⟨b, off, none⟩) mx cap), (1, .int .i64 (at0 : Int)), (4, pP q4), (5, pP q5), (6, .slice (some ⟨kb0, 0, none⟩) T.kids.length pc), (7, pP q7), (8, .int .i64 (i : Int)), (9, pP q9), (10, .int .i64 ((1 + 1 : Nat) : Int))] rfl ⟨m - 1, om, 1 + 1, rfl, hN, hR, hA, hPl, hX, hG, hRr, hY, om⟩
    have hA : Blk _ q5 30 [.int .i64 ((acc.a + (Sp.specy t).a : Nat) : Int), .int .i64 ((acc.b + (Sp.specy t).b : Nat) : Int), .int .i64 ((acc.c : Nat) : Int)] := hA
    refine C.drawSt (fun w' => Gr _ w' none) mixed kR kR rfl ⟨rfl, rfl⟩ (Gr.drew _ _)<|prq 1 rfl<|qw (fun w hw => R.idxP rfl rfl 2 rfl dC ar30) rfl<|lQ sc3 hA rfl rfl<|prq 1 rfl<|qw (fun w hw => R.idxP rfl rfl 2 rfl dC ar30) rfl<|lQ sc3 hY rfl rfl<|qw (fun w hw => R.addN rfl rfl om) rfl<|qw (fun w hw => R.idxP rfl rfl 2 rfl dC ar30) rfl<|Wq.last (fun w hw => R.move rfl) rfl rfl fun w hw => ?_
    have hN := hN.grN hw
    have hR := hR.grN hw
    have hA := hA.grN hw
    have hPl := hPl.grN hw
    have hX := hX.grN hw
    have hY := hY.grN hw
    have hG := hG.trans hw
    refine sT sc3 hA rfl fun w hA hs => ?_
    have hN := hN.gr hs au
    have hR := hR.gr hs au
    have hPl := hPl.gr hs au
    have hX := hX.gr hs au
    have hY := hY.gr hs au
    have hG := hG.fresh hs om
    refine rN ?_
    have hRr := (hRr.grN hw).gr hs sM
    exact bS<|rR<|pr 1 rfl<|qq (R.addK (a0 := 2) 1 rfl rfl dC) rfl<|pr 1 rfl<|rN<|cT [(0, .slice (some ⟨b, off, none⟩) mx cap), (1, .int .i64 (at0 : Int)), (4, pP q4), (5, pP q5), (6, .slice (some ⟨kb0, 0, none⟩) T.kids.length pc), (7, pP q7), (8, .int .i64 (i : Int)), (9, pP q9), (10, .int .i64 ((2 + 1 : Nat) : Int))] rfl ⟨m - 1, om, 2 + 1, rfl, hN, hR, hA, hPl, hX, hG, hRr, hY, om⟩
   refine rE<|rX<|rX<|rY<|bS<|rR<|pr 1 rfl<|aK rfl rfl<|pr 1 rfl<|rN ?_
   have hj3 : j = 3 := by omega
   subst hj3
   exact cT [(0, .slice (some ⟨b, off, none⟩) mx cap), (1, .int .i64 (at0 : Int)), (4, pP q4), (5, pP q5), (6, .slice (some ⟨kb0, 0, none⟩) T.kids.length pc), (7, pP q7), (8, .int .i64 ((i + 1 : Nat) : Int))] rfl ⟨r.length, om, i + 1, k + t.cnt, acc.add (Sp.specy t), r, rfl, hN, hR, hA, hPl, hX, hG, hRr.cast om, om, hdp.2.1, om, by rw [Sp.sumL] at hE; exact hE, by simp only [Tr.add]; omega, by simp only [Tr.add]; omega, by simp only [Tr.add]; omega, rfl, om⟩
  refine rE<|rX<|rX<|rY<|sq ?_
  have hr0 : r = [] := by
   cases r with
   | nil => rfl
   | cons t r2 => exfalso; simp only [List.length_cons] at hir; omega
  subst hr0
  rw [Sp.sumL] at hE
  refine rR<|fA fo53_0 rfl<|lD sc3 hX rfl rfl<|W.split (R.eqI rfl rfl) rfl rfl rfl (fun h9 => ?_) (fun h9 => ?_)
  ·refine pr 1 rfl<|gg (R.fieldAddr fo53_3 rfl) rfl<|gg (R.load sc9 rfl hX rfl) rfl<|gg (R.neS rfl rfl) rfl<|pr 1 rfl<|ns<|cD rfl (fun h10 => ?_) fun h10 => ?_
   ·refine rR<|qq (R.idxP rfl rfl 2 rfl dC ar30) rfl<|lD sc3 hA rfl rfl<|aK rfl rfl<|qq (R.idxP rfl rfl 2 rfl dC ar30) rfl<|sT sc3 hA rfl fun w hA hs => ?_
    have hN := hN.gr hs au
    have hR := hR.gr hs au
    have hPl := hPl.gr hs au
    have hX := hX.gr hs au
    have hG := hG.fresh hs om
    refine nbs<|rQ ?_
    have hT : Sp.specy T = acc.add ⟨0, 0, 1⟩ := by
     rw [Sp.specy_eq, if_neg om, if_neg om, if_neg om, if_pos om, if_pos ⟨om, by assumption⟩, ← hE]
    have hA : Blk w q5 30 (Sp.specy T).cells := by rw [hT]; exact hA
    refine rR<|qq (R.loadAgg (k := 3) (vs := (Sp.specy T).cells) ag30 rfl hA (Nat.le_refl 3) rfl) rfl<|W.storeAll ag30 rfl rfl hR rfl rfl (Tr.cells_one _) fun w hR hs => ?_
    have hG := hG.fresh hs om
    exact nst<|At.resCell rfl rfl (loadVar_agg ag30 hR rfl) ⟨rfl, hG⟩
   refine rK<|bS<|rQ ?_
   have hT : Sp.specy T = acc := by
    rw [Sp.specy_eq, if_neg om, if_neg om, if_neg om, if_pos om, if_neg (by intro hq; first | omega | exact hq.2 (by first | assumption | exact Decidable.not_not.1 aM)), ← hE]
   have hA : Blk w q5 30 (Sp.specy T).cells := by rw [hT]; exact hA
   refine rR<|qq (R.loadAgg (k := 3) (vs := (Sp.specy T).cells) ag30 rfl hA (Nat.le_refl 3) rfl) rfl<|W.storeAll ag30 rfl rfl hR rfl rfl (Tr.cells_one _) fun w hR hs => ?_
   have hG := hG.fresh hs om
   exact nst<|At.resCell rfl rfl (loadVar_agg ag30 hR rfl) ⟨rfl, hG⟩
  refine pr 5 rfl<|ns<|cF rfl<|rK<|bS<|rQ ?_
  have hT : Sp.specy T = acc := by
   rw [Sp.specy_eq, if_neg om, if_neg om, if_neg om, if_pos om, if_neg (by intro hq; first | omega | exact hq.2 (by first | assumption | exact Decidable.not_not.1 aM)), ← hE]
  have hA : Blk w q5 30 (Sp.specy T).cells := by rw [hT]; exact hA
  refine rR<|qq (R.loadAgg (k := 3) (vs := (Sp.specy T).cells) ag30 rfl hA (Nat.le_refl 3) rfl) rfl<|W.storeAll ag30 rfl rfl hR rfl rfl (Tr.cells_one _) fun w hR hs => ?_
  have hG := hG.fresh hs om
  exact nst<|At.resCell rfl rfl (loadVar_agg ag30 hR rfl) ⟨rfl, hG⟩
 try simp only [Bool.not_eq_true', Bool.not_eq_false'] at h6
 subst h6
 refine C.cut (fun l w' => ∃ bb : Bool, l = [(0, .slice (some ⟨b, off, none⟩) mx cap), (1, .int .i64 (at0 : Int)), (4, pP q4), (5, pP q5), (6, .slice pa T.kids.length pc), (7, pP q7), (71, .bool bb)] ∧ NodesAt w' b (off + at0 * 8) T.enc ∧ Blk w' q4 30 Tr.zero.cells ∧ Blk w' q5 30 Tr.zero.cells ∧ Pl (q5 + 1) w' (.slice pa T.kids.length pc) T.kids.length (places (at0 + 1) T.kids) ∧ Blk w' q7 53 (T.top.cells T.cnt) ∧ Gr w0 w' none ∧ (bb = true → T.top.kind = 18 ∨ T.top.kind = 19 ∨ T.top.kind = 20 ∨ T.top.kind = 23) ∧ (bb = false → ¬ T.top.kind = 18 ∧ ¬ T.top.kind = 19 ∧ ¬ T.top.kind = 20 ∧ ¬ T.top.kind = 23)) ?_ ?_
 ·refine rQ ?_
  have hk21 := hbb2 rfl
  refine rR<|qq (R.eqI rfl rfl) rfl<|pr 1 rfl<|ns<|cD rfl (fun h11 => ?_) fun h11 => ?_
  ·have h11i := h11
   rw [decide_eq_true h11i]
   refine rK ?_
   exact cT [(0, .slice (some ⟨b, off, none⟩) mx cap), (1, .int .i64 (at0 : Int)), (4, pP q4), (5, pP q5), (6, .slice pa T.kids.length pc), (7, pP q7), (71, .bool true)] rfl ⟨true, rfl, hN, hR, hA, hPl, hX, hG, (fun _ => by omega), (fun h => by cases h)⟩
  have h11i := h11
  rw [decide_eq_false h11i]
  refine qr<|qq (R.eqI rfl rfl) rfl<|pr 1 rfl<|ns<|cD rfl (fun h12 => ?_) fun h12 => ?_
  ·have h12i := h12
   rw [decide_eq_true h12i]
   refine rK ?_
   exact cT [(0, .slice (some ⟨b, off, none⟩) mx cap), (1, .int .i64 (at0 : Int)), (4, pP q4), (5, pP q5), (6, .slice pa T.kids.length pc), (7, pP q7), (71, .bool true)] rfl ⟨true, rfl, hN, hR, hA, hPl, hX, hG, (fun _ => by omega), (fun h => by cases h)⟩
  have h12i := h12
  rw [decide_eq_false h12i]
  refine qr<|qq (R.eqI rfl rfl) rfl<|pr 1 rfl<|ns<|cD rfl (fun h13 => ?_) fun h13 => ?_
  ·have h13i := h13
   rw [decide_eq_true h13i]
   refine rK ?_
   exact cT [(0, .slice (some ⟨b, off, none⟩) mx cap), (1, .int .i64 (at0 : Int)), (4, pP q4), (5, pP q5), (6, .slice pa T.kids.length pc), (7, pP q7), (71, .bool true)] rfl ⟨true, rfl, hN, hR, hA, hPl, hX, hG, (fun _ => by omega), (fun h => by cases h)⟩
  have h13i := h13
  rw [decide_eq_false h13i]
  refine rR<|W.split (R.eqI rfl rfl) rfl rfl rfl (fun h14 => ?_) (fun h14 => ?_)
  ·refine pr 1 rfl<|rN ?_
   exact cT [(0, .slice (some ⟨b, off, none⟩) mx cap), (1, .int .i64 (at0 : Int)), (4, pP q4), (5, pP q5), (6, .slice pa T.kids.length pc), (7, pP q7), (71, .bool true)] rfl ⟨true, rfl, hN, hR, hA, hPl, hX, hG, (fun _ => by omega), (fun h => by cases h)⟩
  refine pr 1 rfl<|rN ?_
  exact cT [(0, .slice (some ⟨b, off, none⟩) mx cap), (1, .int .i64 (at0 : Int)), (4, pP q4), (5, pP q5), (6, .slice pa T.kids.length pc), (7, pP q7), (71, .bool false)] rfl ⟨false, rfl, hN, hR, hA, hPl, hX, hG, (fun h => by cases h), (fun _ => by omega)⟩
 rintro l w ⟨bm, rfl, hN, hR, hA, hPl, hX, hG, hbm1, hbm2⟩
 refine cC rfl (fun h15 => ?_) (fun h15 => ?_)
 ·try simp only [Bool.not_eq_true', Bool.not_eq_false'] at h15
  subst h15
  refine rQ ?_
  have hk18 := hbm1 rfl
  have hk21 := hbb2 rfl
  refine rR<|pr 1 rfl<|ns<|rO<|sB [(0, .slice (some ⟨b, off, none⟩) mx cap), (1, .int .i64 (at0 : Int)), (4, pP q4), (5, pP q5), (6, .slice pa T.kids.length pc), (7, pP q7), (11, .int .i64 ((0 : Nat) : Int))] rfl<|C.loop (fun m l w' => ∃ (i k : Nat) (acc : Tr) (r : List ST), l = [(0, .slice (some ⟨b, off, none⟩) mx cap), (1, .int .i64 (at0 : Int)), (4, pP q4), (5, pP q5), (6, .slice pa T.kids.length pc), (7, pP q7), (11, .int .i64 (i : Int))] ∧ NodesAt w' b (off + at0 * 8) T.enc ∧ Blk w' q4 30 Tr.zero.cells ∧ Blk w' q5 30 acc.cells ∧ Pl (q5 + 1) w' (.slice pa T.kids.length pc) T.kids.length (places (at0 + 1) T.kids) ∧ Blk w' q7 53 (T.top.cells T.cnt) ∧ Gr w0 w' none ∧ NodesAt w' b (off + k * 8) (ST.encL r) ∧ i + r.length = T.kids.length ∧ (places (at0 + 1) T.kids).drop i = places k r ∧ k + ST.cntL r = at0 + T.cnt ∧ Sp.maxL acc r = Sp.maxL Tr.zero T.kids ∧ acc.a + ST.cntL r ≤ T.cnt ∧ acc.b + ST.cntL r ≤ T.cnt ∧ acc.c + ST.cntL r ≤ T.cnt ∧ m = r.length ∧ at0 < k) (T.kids.length) (⟨0, at0 + 1, Tr.zero, T.kids, rfl, hN, hR, hA, hPl, hX, hG, hN.kids.cast om, om, rfl, by rw [ST.cnt_eq T]; omega, rfl, by rw [ST.cnt_eq T]; simp only [Tr.zero]; omega, by rw [ST.cnt_eq T]; simp only [Tr.zero]; omega, by rw [ST.cnt_eq T]; simp only [Tr.zero]; omega, rfl, om⟩) ?_
  rintro m l w ⟨i, k, acc, r, rfl, hN, hR, hA, hPl, hX, hG, hRr, hir, hdp, hk, hE, ha1, ha2, ha3, hm, hak⟩
  refine qqr<|pr 2 rfl<|qq (R.lenL rfl slq54) rfl<|qq (R.ltI rfl rfl) rfl<|ns<|cD rfl (fun h16 => ?_) fun h16 => ?_
  ·refine ksq<|rO<|rQ ?_
   obtain ⟨t, r, rfl⟩ : ∃ t r2, r = t :: r2 := by
    cases r with
    | nil => simp only [List.length_nil] at hir; omega
    | cons t r2 => exact ⟨t, r2, rfl⟩
   have hK := hRr.head
   have hRr := hRr.tail
   have hct := ST.cnt_eq T
   rw [ST.cntL] at hk ha1 ha2 ha3
   rw [places] at hdp
   have hdp := drop_cons hdp
   obtain ⟨kb0, kc0, hq0⟩ := own_slice (n := T.kids.length) hPl om
   injection hq0 with hq0 hq1 hq2
   subst hq0 hq2
   have hcell := NodesAt.of_own hPl _ _ hdp.1
   rw [Nat.zero_add] at hcell
   have hkl := ST.cntL_len T.kids
   have hsy := Sp.specy_le t
   simp only [List.length_cons] at hir hm
   refine rR<|pr 3 rfl<|qq (R.idxB rfl rfl i rfl om sl54) rfl<|qq (R.loadC sc3 rfl hcell) rfl<|eN en15 rfl (ih t k _ om hK om) fun v w hv => ?_
   obtain ⟨rfl, hv⟩ := hv
   have hG := hG.trans hv
   have hK := hK.grN hv
   have hRr := hRr.grN hv
   have hN := hN.gr hv au
   have hR := hR.gr hv au
   have hA := hA.gr hv au
   have hPl := hPl.gr hv au
   have hX := hX.gr hv au
   have hl_q12_q4 := hR.lt
   have hl_q12_q5 := hA.lt
   have hl_q12_q7 := hX.lt
   have hpn_q12 := own_old hPl (Nat.le_refl _)
   have hbn_q12 := hN.blk
   have hz_q12 := hG.size
   refine W.alloc z30 rfl fun w q12 hqz_q12 hY hv => ?_
   have hN := hN.grN hv
   have hR := hR.grN hv
   have hA := hA.grN hv
   have hPl := hPl.grN hv
   have hX := hX.grN hv
   have hG := hG.trans hv
   rw [← hqz_q12] at hpn_q12
   have hRr := hRr.grN hv
   refine W.storeAll ag30 rfl rfl hY rfl rfl (Tr.cells_one _) fun w hY hs => ?_
   have hN := hN.gr hs au
   have hR := hR.gr hs au
   have hA := hA.gr hs au
   have hPl : Pl _ _ _ _ _ := own_kept hPl hs hpn_q12
   have hX := hX.gr hs au
   have hG := hG.fresh hs om
   have hRr := hRr.gr hs sM
   refine nsqr<|qq (R.loadAgg (k := 3) (vs := acc.cells) ag30 rfl hA (Nat.le_refl 3) rfl) rfl<|qq (R.loadAgg (k := 3) (vs := (Sp.specy t).cells) ag30 rfl hY (Nat.le_refl 3) rfl) rfl<|eN en23 rfl (LessSpecific_calls acc (Sp.specy t) _) fun v w hv => ?_
   obtain ⟨rfl, hv⟩ := hv
   have hG := hG.trans hv
   have hRr := hRr.grN hv
   have hN := hN.gr hv au
   have hR := hR.gr hv au
   have hA := hA.gr hv au
   have hPl := hPl.gr hv au
   have hX := hX.gr hv au
   have hY := hY.gr hv au
   cases hb16 : acc.less (Sp.specy t)
   ·refine ns<|cF rfl<|rK<|bS<|rR<|pr 1 rfl<|aK rfl rfl<|pr 1 rfl<|rN ?_
    rw [Sp.maxL, if_neg (by first | assumption | (rw [‹Tr.less _ _ = false›]; decide))] at hE
    exact cT [(0, .slice (some ⟨b, off, none⟩) mx cap), (1, .int .i64 (at0 : Int)), (4, pP q4), (5, pP q5), (6, .slice (some ⟨kb0, 0, none⟩) T.kids.length pc), (7, pP q7), (11, .int .i64 ((i + 1 : Nat) : Int))] rfl ⟨r.length, om, i + 1, k + t.cnt, acc, r, rfl, hN, hR, hA, hPl, hX, hG, hRr.cast om, om, hdp.2.1, om, hE, om, om, om, rfl, om⟩
   refine ns<|cV rfl<|rR<|qq (R.loadAgg (k := 3) (vs := (Sp.specy t).cells) ag30 rfl hY (Nat.le_refl 3) rfl) rfl<|W.storeAll ag30 rfl rfl hA rfl rfl (Tr.cells_one _) fun w hA hs => ?_
   have hN := hN.gr hs au
   have hR := hR.gr hs au
   have hPl := hPl.gr hs au
   have hX := hX.gr hs au
   have hY := hY.gr hs au
   have hRr := hRr.gr hs sM
   have hG := hG.fresh hs om
   refine nbs<|rR<|pr 1 rfl<|aK rfl rfl<|pr 1 rfl<|rN ?_
   rw [Sp.maxL, if_pos (by first | assumption | (rw [‹Tr.less _ _ = false›]; decide))] at hE
   exact cT [(0, .slice (some ⟨b, off, none⟩) mx cap), (1, .int .i64 (at0 : Int)), (4, pP q4), (5, pP q5), (6, .slice (some ⟨kb0, 0, none⟩) T.kids.length pc), (7, pP q7), (11, .int .i64 ((i + 1 : Nat) : Int))] rfl ⟨r.length, om, i + 1, k + t.cnt, Sp.specy t, r, rfl, hN, hR, hA, hPl, hX, hG, hRr.cast om, om, hdp.2.1, om, hE, om, om, om, rfl, om⟩
  refine rE<|rX<|rX<|rY<|bS<|rQ ?_
  have hr0 : r = [] := by
   cases r with
   | nil => rfl
   | cons t r2 => exfalso; simp only [List.length_cons] at hir; omega
  subst hr0
  rw [Sp.maxL] at hE
  have hT : Sp.specy T = acc := by
   rw [Sp.specy_eq, if_neg om, if_neg om, if_neg om, if_neg om, if_pos om, ← hE]
  have hA : Blk w q5 30 (Sp.specy T).cells := by rw [hT]; exact hA
  refine rR<|qq (R.loadAgg (k := 3) (vs := (Sp.specy T).cells) ag30 rfl hA (Nat.le_refl 3) rfl) rfl<|W.storeAll ag30 rfl rfl hR rfl rfl (Tr.cells_one _) fun w hR hs => ?_
  have hG := hG.fresh hs om
  exact nst<|At.resCell rfl rfl (loadVar_agg ag30 hR rfl) ⟨rfl, hG⟩
 try simp only [Bool.not_eq_true', Bool.not_eq_false'] at h15
 subst h15
 have hkno := hbm2 rfl
 have hk21 := hbb2 rfl
 refine rR<|qq (R.idxP rfl rfl 1 rfl dC ar30) rfl<|sT sc3 hA rfl fun w hA hs => ?_
 have hN := hN.gr hs au
 have hR := hR.gr hs au
 have hPl := hPl.gr hs au
 have hX := hX.gr hs au
 have hG := hG.fresh hs om
 refine nbs<|rQ ?_
 have hT : Sp.specy T = ⟨0, 1, 0⟩ := by
  rw [Sp.specy_eq, if_neg om, if_neg om, if_neg om, if_neg (c := T.top.kind = 21 ∨ T.top.kind = 22) om, if_neg (c := T.top.kind = 18 ∨ T.top.kind = 19 ∨ T.top.kind = 20 ∨ T.top.kind = 23) om]
 have hA : Blk w q5 30 (Sp.specy T).cells := by rw [hT]; exact hA
 refine rR<|qq (R.loadAgg (k := 3) (vs := (Sp.specy T).cells) ag30 rfl hA (Nat.le_refl 3) rfl) rfl<|W.storeAll ag30 rfl rfl hR rfl rfl (Tr.cells_one _) fun w hR hs => ?_
 have hG := hG.fresh hs om
 exact nst<|At.resCell rfl rfl (loadVar_agg ag30 hR rfl) ⟨rfl, hG⟩
theorem specificity_calls (b off mx cap : Nat) (hb : mx ≤ 90000) : ∀ (n : Nat) (T : ST) (at0 : Nat) (w0 : World), T.cnt ≤ n → NodesAt w0 b (off + at0 * 8) T.enc → at0 + T.cnt ≤ mx → CR PR 15 [.slice (some ⟨b, off, none⟩) mx cap, .int .i64 (at0 : Int)] w0 fun v w' => v = .agg (Sp.specy T).cells.toArray ∧ Gr w0 w' none
 | 0, T, _, _, h, _, _ => by have := ST.cnt_pos T; omega
 | n + 1, T, at0, w0, h, hN, hm => specificity_step b off mx cap at0 T w0 hN hm hb fun t k w h1 h2 h3 => specificity_calls b off mx cap hb n t k w om h2 h3
theorem Specificity_calls (b off mx cap : Nat) (T : ST) (w0 : World) (hN : NodesAt w0 b (off + 0 * 8) T.enc) (hm0 : T.cnt ≤ mx) (hb : mx ≤ 90000) :
 CR PR 7 [.slice (some ⟨b, off, none⟩) mx cap] w0 fun v w' => v = .agg (Sp.specy T).cells.toArray ∧ Gr w0 w' none := by
 have hcp := ST.cnt_pos T
 have hG : Gr w0 w0 none := Gr.refl _ _
 refine CR.of (n := 9) [(0, .slice (some ⟨b, off, none⟩) mx cap)] Tryz.func7 rfl Tryz.ntmps7 rfl ⟨rfl, trivial⟩<|qr<|W.alloc z30 rfl fun w q hqz hR hv => ?_
 have hqz2 := hG.size
 have hN := hN.grN hv
 have hG := hG.trans hv
 refine nsq<|qr<|pr 1 rfl<|qq (R.lenL rfl slq22) rfl<|qq (R.eqI rfl rfl) rfl<|ns<|cD rfl (fun h1 => ?_) fun h1 => ?_
 ·exfalso; omega
 refine ksqr<|pr 1 rfl<|eN en15 rfl (specificity_calls b off mx cap hb _ T 0 _ (Nat.le_refl _) hN om) fun v w hv => ?_
 obtain ⟨rfl, hv⟩ := hv
 have hR := hR.grN hv
 have hG := hG.trans hv
 have hN := hN.gr hv au
 refine W.storeAll ag30 rfl rfl hR rfl rfl (Tr.cells_one _) fun w hR hs => ?_
 have hG := hG.fresh hs om
 exact nst<|At.resCell rfl rfl (loadVar_agg ag30 hR rfl) ⟨rfl, hG⟩
mutual
def ST.flat : ST → List (SelN × Nat)
 | .node x l => (x, 1 + ST.cntL l) :: ST.flatL l
def ST.flatL : List ST → List (SelN × Nat)
 | [] => []
 | t :: r => t.flat ++ ST.flatL r
end
mutual
theorem ST.flat_length : (t : ST) → t.flat.length = t.cnt
 | .node x l => by rw [ST.flat, ST.cnt, List.length_cons, ST.flatL_length l]; omega
theorem ST.flatL_length : (l : List ST) → (ST.flatL l).length = ST.cntL l
 | [] => rfl
 | t :: r => by rw [ST.flatL, ST.cntL, List.length_append, ST.flat_length t, ST.flatL_length r]
end
def encF : List (SelN × Nat) → List Value
 | [] => []
 | p :: r => p.1.cells p.2 ++ encF r
theorem encF_append (a b : List (SelN × Nat)) : encF (a ++ b) = encF a ++ encF b := by
 induction a with
 | nil => rfl
 | cons p r ih => rw [List.cons_append, encF, encF, ih, List.append_assoc]
mutual
theorem ST.enc_flat : (t : ST) → t.enc = encF t.flat
 | .node x l => by rw [ST.enc, ST.flat, encF, ST.encL_flat l]
theorem ST.encL_flat : (l : List ST) → ST.encL l = encF (ST.flatL l)
 | [] => rfl
 | t :: r => by rw [ST.encL, ST.flatL, encF_append, ST.enc_flat t, ST.encL_flat r]
end
namespace Sp
def pseudoOf : List (SelN × Nat) → List UInt8
 | [] => []
 | p :: r => if p.1.kind = 21 ∧ ¬ p.1.val = [] then p.1.val else pseudoOf r
end Sp
def CellsAt (w : World) (b o : Nat) (p : SelN × Nat) : Prop := NodesAt w b o (p.1.cells p.2)
theorem CellsAt.kind {w : World} {b o : Nat} {p : SelN × Nat} (h : CellsAt w b o p) : w.cell? ⟨b, o + 0, none⟩ = some (.int .i64 (p.1.kind : Int)) := h 0 _ rfl
theorem CellsAt.val {w : World} {b o : Nat} {p : SelN × Nat} (h : CellsAt w b o p) : w.cell? ⟨b, o + 3, none⟩ = some (str p.1.val) := h 3 _ rfl
theorem Pseudo9_calls (b off cap : Nat) (T : ST) (w0 : World) (hN : NodesAt w0 b (off + 0 * 8) T.enc) (hb : T.cnt ≤ 90000) :
 CR PR 8 [.slice (some ⟨b, off, none⟩) T.cnt cap] w0 fun v w' => v = str (Sp.pseudoOf T.flat) ∧ Gr w0 w' none := by
 have hG : Gr w0 w0 none := Gr.refl _ _
 refine CR.of (n := 29) [(0, .slice (some ⟨b, off, none⟩) T.cnt cap)] Tryz.func8 rfl Tryz.ntmps8 rfl ⟨rfl, trivial⟩<|qr<|pr 1 rfl<|nsq<|qr<|pr 1 rfl<|qq (R.lenL rfl slq22) rfl<|pr 1 rfl<|ns<|rO<|sB [(0, .slice (some ⟨b, off, none⟩) T.cnt cap), (5, .int .i64 (T.cnt : Int)), (6, .int .i64 ((0 : Nat) : Int))] rfl<|C.loop (fun mu l w' => ∃ (i : Nat) (r : List (SelN × Nat)), l = [(0, .slice (some ⟨b, off, none⟩) T.cnt cap), (5, .int .i64 (T.cnt : Int)), (6, .int .i64 (i : Int))] ∧ NodesAt w' b (off + i * 8) (encF r) ∧ Gr w0 w' none ∧ i + r.length = T.cnt ∧ Sp.pseudoOf r = Sp.pseudoOf T.flat ∧ mu = r.length) (T.cnt) (⟨0, T.flat, rfl, by rw [← ST.enc_flat]; exact hN, hG, by rw [ST.flat_length]; omega, rfl, by rw [ST.flat_length]⟩) ?_
 rintro m l w ⟨i, r, rfl, hR, hG, hir, hE, hmu⟩
 refine qr<|qq (R.ltI rfl rfl) rfl<|nsq<|cD rfl (fun h1 => ?_) fun h1 => ?_
 ·obtain ⟨p, r, rfl⟩ : ∃ p r2, r = p :: r2 := by
   cases r with
   | nil => simp only [List.length_nil] at hir; omega
   | cons p r2 => exact ⟨p, r2, rfl⟩
  have hK : CellsAt w b (off + i * 8) p := hR.left
  simp only [List.length_cons] at hir hmu
  refine ksq<|rO<|qr<|pr 2 rfl<|nsqr<|pr 2 rfl<|qq (R.idxA rfl rfl _ rfl om sl22) rfl<|fA fo53_0 rfl<|qq (R.loadC sc3 rfl hK.kind) rfl<|W.split (R.eqI rfl rfl) rfl rfl rfl (fun h2 => ?_) (fun h2 => ?_)
  ·refine pr 3 rfl<|gg (R.idxA rfl rfl _ rfl om sl22) rfl<|gg (R.fieldAddr fo53_3 rfl) rfl<|gg (R.loadC sc9 rfl hK.val) rfl<|gg (R.neS rfl rfl) rfl<|pr 1 rfl<|ns<|cD rfl (fun h3 => ?_) fun h3 => ?_
   ·refine qr<|pr 2 rfl<|qq (R.idxA rfl rfl _ rfl om sl22) rfl<|fA fo53_3 rfl<|qq (R.loadC sc9 rfl hK.val) rfl<|pr 1 rfl<|nst<|rC<|rH<|rH<|rC<|rH<|rA rfl rfl ⟨?_, hG⟩
    rw [Sp.pseudoOf, if_pos ⟨om, by assumption⟩] at hE
    rw [← hE]
   refine rK<|bS<|rR<|aK rfl rfl<|pr 1 rfl<|rN ?_
   rw [Sp.pseudoOf, if_neg (by intro hq; first | omega | exact hq.2 (by first | assumption | exact Decidable.not_not.1 aM))] at hE
   exact cT [(0, .slice (some ⟨b, off, none⟩) T.cnt cap), (5, .int .i64 (T.cnt : Int)), (6, .int .i64 ((i + 1 : Nat) : Int))] rfl ⟨r.length, om, i + 1, r, rfl, NodesAt.cast hR.right (show _ = off + (i + 1) * 8 from by rw [SelN.cells_length]; omega), hG, om, hE, rfl⟩
  refine pr 8 rfl<|ns<|cF rfl<|rK<|bS<|rR<|aK rfl rfl<|pr 1 rfl<|rN ?_
  rw [Sp.pseudoOf, if_neg (by intro hq; first | omega | exact hq.2 (by first | assumption | exact Decidable.not_not.1 aM))] at hE
  exact cT [(0, .slice (some ⟨b, off, none⟩) T.cnt cap), (5, .int .i64 (T.cnt : Int)), (6, .int .i64 ((i + 1 : Nat) : Int))] rfl ⟨r.length, om, i + 1, r, rfl, NodesAt.cast hR.right (show _ = off + (i + 1) * 8 from by rw [SelN.cells_length]; omega), hG, om, hE, rfl⟩
 refine rE<|rX<|rX<|rY<|sqr<|pr 1 rfl<|nst ?_
 have hr0 : r = [] := List.length_eq_zero_iff.1 om
 subst hr0
 refine rA rfl rfl ⟨?_, hG⟩
 rw [← hE]; rfl
end Go.Proofs.YtogfnbkccfkpoaaGreatDoor
namespace Go.Proofs.YtogfnbkccfkpoaaGreatDoor
open Go Go.RowKit
inductive IS where
 | tag (t : List UInt8)
 | cls (t : List UInt8)
 | idt (t : List UInt8)
 | attr (key val op : List UInt8) (ins : Bool)
 | rel (name : List UInt8) (g : List IS)
 | contains (v : List UInt8) (own : Bool)
 | nth (a b : Int) (last ofType : Bool)
 | only (ofType : Bool)
 | flat (ty : Nat)
 | lang (v : List UInt8)
 | never (v : List UInt8)
 | comp (sels : List IS) (pe : List UInt8)
 | comb (a : IS) (c : Nat) (b : IS)
namespace Im
def hexDigit (c : Nat) : Bool := decide (48 ≤ c) && decide (c ≤ 57) || decide (97 ≤ c) && decide (c ≤ 102) || decide (65 ≤ c) && decide (c ≤ 70)
def nameStart (c : Nat) : Bool := decide (97 ≤ c) && decide (c ≤ 122) || decide (65 ≤ c) && decide (c ≤ 90) || c == 95 || decide (127 < c)
def nameChar (c : Nat) : Bool := decide (97 ≤ c) && decide (c ≤ 122) || decide (65 ≤ c) && decide (c ≤ 90) || c == 95 || decide (127 < c) || c == 45 || decide (48 ≤ c) && decide (c ≤ 57)
def hexEnd (s : List UInt8) : Nat → Nat → Nat
 | 0, i => i
 | k + 1, i => if i < s.length ∧ hexDigit (byteAt s i) = true then hexEnd s k (i + 1) else i
def hexNum (l : List UInt8) : Nat := l.foldl (fun n c => 16 * n + (Sp.hexv c.toNat).getD 0) 0
def hexSkip (s : List UInt8) (j : Nat) : Nat :=
 if j < s.length then
  if byteAt s j = 13 then (if j + 1 < s.length ∧ byteAt s (j + 1) = 10 then j + 2 else j + 1)
  else if byteAt s j = 32 ∨ byteAt s j = 9 ∨ byteAt s j = 10 ∨ byteAt s j = 12 then j + 1 else j
 else j
def escape (s : List UInt8) (i : Nat) : Option (List UInt8 × Nat) :=
 if s.length < i + 2 ∨ ¬ byteAt s i = 92 then none
 else if byteAt s (i + 1) = 13 ∨ byteAt s (i + 1) = 10 ∨ byteAt s (i + 1) = 12 then none
 else if hexDigit (byteAt s (i + 1)) = true then some (Sp.utf8 (hexNum ((s.drop (i + 1)).take (hexEnd s 6 (i + 1) - (i + 1)))), hexSkip s (hexEnd s 6 (i + 1)))
 else some ((s.drop (i + 1)).take 1, i + 2)
def nameRun (s : List UInt8) : Nat → Nat → Nat
 | 0, i => i
 | k + 1, i => if i < s.length ∧ nameChar (byteAt s i) = true then nameRun s k (i + 1) else i
def nameGo (s : List UInt8) : Nat → List UInt8 → Nat → Option (List UInt8 × Nat)
 | 0, out, i => some (out, i)
 | k + 1, out, i =>
  if i < s.length then
   if nameChar (byteAt s i) = true then nameGo s k (out ++ (s.drop i).take (nameRun s s.length i - i)) (nameRun s s.length i)
   else if byteAt s i = 92 then
    match escape s i with
    | none => none
    | some (v, j) => nameGo s k (out ++ v) j
   else some (out, i)
  else some (out, i)
def name (s : List UInt8) (i : Nat) : Option (List UInt8 × Nat) :=
 match nameGo s (s.length + 1) [] i with
 | none => none
 | some (out, j) => if out = [] then none else some (out, j)
def dashEnd (s : List UInt8) : Nat → Nat → Nat
 | 0, i => i
 | k + 1, i => if i < s.length ∧ byteAt s i = 45 then dashEnd s k (i + 1) else i
def identAt (s : List UInt8) (i j : Nat) : Option (List UInt8 × Nat) :=
 if s.length ≤ j then none
 else if ¬ (nameStart (byteAt s j) = true ∨ byteAt s j = 92) then none
 else match name s j with
  | none => none
  | some (v, k) => some (List.replicate (j - i) 45 ++ v, k)
def ident (s : List UInt8) (i : Nat) : Option (List UInt8 × Nat) := identAt s i (dashEnd s (s.length + 1) i)
def strRun (s : List UInt8) (q : Nat) : Nat → Nat → Nat
 | 0, i => i
 | k + 1, i => if i < s.length ∧ ¬ (byteAt s i = q ∨ byteAt s i = 92 ∨ byteAt s i = 13 ∨ byteAt s i = 10 ∨ byteAt s i = 12) then strRun s q k (i + 1) else i
def strGo (s : List UInt8) (q : Nat) : Nat → List UInt8 → Nat → Option (List UInt8 × Nat)
 | 0, _, _ => none
 | k + 1, out, i =>
  if i < s.length then
   if byteAt s i = 92 then
    if i + 1 < s.length ∧ byteAt s (i + 1) = 13 then
     if i + 2 < s.length ∧ byteAt s (i + 2) = 10 then strGo s q k out (i + 3) else strGo s q k out (i + 2)
    else if i + 1 < s.length ∧ (byteAt s (i + 1) = 10 ∨ byteAt s (i + 1) = 12) then strGo s q k out (i + 2)
    else match escape s i with
     | none => none
     | some (v, j) => strGo s q k (out ++ v) j
   else if byteAt s i = q then some (out, i + 1)
   else if byteAt s i = 13 ∨ byteAt s i = 10 ∨ byteAt s i = 12 then none
   else strGo s q k (out ++ (s.drop i).take (strRun s q s.length i - i)) (strRun s q s.length i)
  else none
def string (s : List UInt8) (i : Nat) : Option (List UInt8 × Nat) :=
 if s.length < i + 2 then none else strGo s (byteAt s i) (s.length + 1) [] (i + 1)
def isWs (c : Nat) : Bool := c == 32 || c == 9 || c == 13 || c == 10 || c == 12
def wsGo (s : List UInt8) : Nat → Nat → Nat
 | 0, i => i
 | k + 1, i =>
  if i < s.length then
   if isWs (byteAt s i) = true then wsGo s k (i + 1)
   else if byteAt s i = 47 ∧ i + 1 < s.length ∧ byteAt s (i + 1) = 42 then
    match Sp.commentEnd s s.length (i + 2) with
    | some j => wsGo s k j
    | none => i
   else i
  else i
def ws (s : List UInt8) (i : Nat) : Nat := wsGo s (s.length + 1) i
def cparen (s : List UInt8) (i : Nat) : Option Nat := if i < s.length ∧ byteAt s i = 40 then some (ws s (i + 1)) else none
def cclose (s : List UInt8) (i : Nat) : Option Nat := if ws s i < s.length ∧ byteAt s (ws s i) = 41 then some (ws s i + 1) else none
def word (s : List UInt8) (i : Nat) : Option (List UInt8 × Nat) := if byteAt s i = 39 ∨ byteAt s i = 34 then string s i else ident s i
def attrVal (s : List UInt8) (key op : List UInt8) (i : Nat) : Option (IS × Nat) :=
 let i := ws s i
 if s.length ≤ i then none
 else match word s i with
  | none => none
  | some (val, i) =>
   let i := ws s i
   if s.length ≤ i then none
   else
    let ins := decide (byteAt s i = 105 ∨ byteAt s i = 73)
    let i := ws s (if ins then i + 1 else i)
    if s.length ≤ i then none
    else if ¬ byteAt s i = 93 then none
    else if Sp.signs.contains op then some (.attr key val op ins, i + 1) else none
def attr (s : List UInt8) (i : Nat) : Option (IS × Nat) :=
 match ident s (ws s (i + 1)) with
 | none => none
 | some (key, j) =>
  let key := Sp.lower key
  let j := ws s j
  if s.length ≤ j then none
  else if byteAt s j = 93 then some (.attr key [] [] false, j + 1)
  else if s.length ≤ j + 2 then none
  else if byteAt s j = 61 then attrVal s key [61] (j + 1)
  else if ¬ byteAt s (j + 1) = 61 then none
  else attrVal s key ((s.drop j).take 2) (j + 2)
def digEnd (s : List UInt8) : Nat → Nat → Nat
 | 0, i => i
 | k + 1, i => if i < s.length ∧ 48 ≤ byteAt s i ∧ byteAt s i ≤ 57 then digEnd s k (i + 1) else i
def digNum (l : List UInt8) : Nat := l.foldl (fun n c => 10 * n + (c.toNat - 48)) 0
def integer (s : List UInt8) (i : Nat) : Option (Nat × Nat) :=
 let j := digEnd s s.length i
 if j = i then none
 else if digNum ((s.drop i).take (j - i)) < 9223372036854775808 then some (digNum ((s.drop i).take (j - i)), j) else none
def isN (c : Nat) : Bool := c == 110 || c == 78
def isDig (c : Nat) : Bool := decide (48 ≤ c) && decide (c ≤ 57)
def readN (s : List UInt8) (a : Int) (i : Nat) : Option (Int × Int × Nat) :=
 let i := ws s i
 if s.length ≤ i then none
 else if byteAt s i = 43 then
  match integer s (ws s (i + 1)) with
  | none => none
  | some (b, j) => some (a, b, j)
 else if byteAt s i = 45 then
  match integer s (ws s (i + 1)) with
  | none => none
  | some (b, j) => some (a, -(b : Int), j)
 else some (a, 0, i)
def readA (s : List UInt8) (neg : Bool) (i : Nat) : Option (Int × Int × Nat) :=
 if s.length ≤ i then none
 else if isDig (byteAt s i) = true then
  match integer s i with
  | none => none
  | some (a, j) =>
   let a : Int := if neg then -(a : Int) else a
   if s.length ≤ j then none
   else if isN (byteAt s j) = true then readN s a (j + 1) else some (0, a, j)
 else if isN (byteAt s i) = true then readN s (if neg then -1 else 1) (i + 1)
 else none
def nth (s : List UInt8) (i : Nat) : Option (Int × Int × Nat) :=
 if s.length ≤ i then none
 else if byteAt s i = 45 then readA s true (i + 1)
 else if byteAt s i = 43 then readA s false (i + 1)
 else if isDig (byteAt s i) = true then readA s false i
 else if isN (byteAt s i) = true then readN s 1 (i + 1)
 else if byteAt s i = 111 ∨ byteAt s i = 79 ∨ byteAt s i = 101 ∨ byteAt s i = 69 then
  match name s i with
  | none => none
  | some (v, j) => if Sp.lower v = [111, 100, 100] then some (2, 1, j) else if Sp.lower v = [101, 118, 101, 110] then some (2, 0, j) else none
 else none
def elements : List (List UInt8) := [[97, 102, 116, 101, 114], [98, 97, 99, 107, 100, 114, 111, 112], [98, 101, 102, 111, 114, 101], [99, 117, 101], [102, 105, 114, 115, 116, 45, 108, 101, 116, 116, 101, 114], [102, 105, 114, 115, 116, 45, 108, 105, 110, 101], [103, 114, 97, 109, 109, 97, 114, 45, 101, 114, 114, 111, 114], [109, 97, 114, 107, 101, 114], [112, 108, 97, 99, 101, 104, 111, 108, 100, 101, 114], [115, 101, 108, 101, 99, 116, 105, 111, 110], [115, 112, 101, 108, 108, 105, 110, 103, 45, 101, 114, 114, 111, 114]]
def nevers : List (List UInt8) := [[118, 105, 115, 105, 116, 101, 100], [104, 111, 118, 101, 114], [97, 99, 116, 105, 118, 101], [102, 111, 99, 117, 115], [116, 97, 114, 103, 101, 116]]
def simpleOf (nm : List UInt8) : Option IS :=
 if nm = [102, 105, 114, 115, 116, 45, 99, 104, 105, 108, 100] then some (.nth 0 1 false false)
 else if nm = [108, 97, 115, 116, 45, 99, 104, 105, 108, 100] then some (.nth 0 1 true false)
 else if nm = [102, 105, 114, 115, 116, 45, 111, 102, 45, 116, 121, 112, 101] then some (.nth 0 1 false true)
 else if nm = [108, 97, 115, 116, 45, 111, 102, 45, 116, 121, 112, 101] then some (.nth 0 1 true true)
 else if nm = [111, 110, 108, 121, 45, 99, 104, 105, 108, 100] then some (.only false)
 else if nm = [111, 110, 108, 121, 45, 111, 102, 45, 116, 121, 112, 101] then some (.only true)
 else if nm = [105, 110, 112, 117, 116] then some (.flat 126)
 else if nm = [101, 109, 112, 116, 121] then some (.flat 127)
 else if nm = [114, 111, 111, 116] then some (.flat 128)
 else if nm = [108, 105, 110, 107] then some (.flat 129)
 else none
def simpleOf2 (nm : List UInt8) : Option IS :=
 if nm = [101, 110, 97, 98, 108, 101, 100] then some (.flat 132)
 else if nm = [100, 105, 115, 97, 98, 108, 101, 100] then some (.flat 133)
 else if nm = [99, 104, 101, 99, 107, 101, 100] then some (.flat 134)
 else if nevers.contains nm then some (.never (58 :: nm))
 else none
section
variable (s : List UInt8) (grp : Nat → Option (List IS × Nat))
abbrev PseRes := Option (Option IS × List UInt8 × Nat)
def pseRel (nm : List UInt8) (j : Nat) : PseRes :=
 match cparen s j with
 | none => none
 | some j => match grp j with
  | none => none
  | some (l, j) => match cclose s j with
   | none => none
   | some j => some (some (.rel nm l), [], j)
def pseContains (own : Bool) (j : Nat) : PseRes :=
 match cparen s j with
 | none => none
 | some j =>
  if j = s.length then none
  else match word s j with
   | none => none
   | some (v, j) =>
    if s.length ≤ ws s j then none
    else match cclose s (ws s j) with
     | none => none
     | some j => some (some (.contains (Sp.lower v) own), [], j)
def pseLang (j : Nat) : PseRes :=
 match cparen s j with
 | none => none
 | some j =>
  if j = s.length then none
  else match ident s j with
   | none => none
   | some (v, j) =>
    if s.length ≤ ws s j then none
    else match cclose s (ws s j) with
     | none => none
     | some j => some (some (.lang (Sp.lower v)), [], j)
def pseNth (last ofType : Bool) (j : Nat) : PseRes :=
 match cparen s j with
 | none => none
 | some j => match nth s j with
  | none => none
  | some (a, b, j) => match cclose s j with
   | none => none
   | some j => some (some (.nth a b last ofType), [], j)
def pseNamed (nm : List UInt8) (j : Nat) : PseRes :=
 if nm = [110, 111, 116] ∨ nm = [104, 97, 115] ∨ nm = [104, 97, 115, 99, 104, 105, 108, 100] then pseRel s grp nm j
 else if nm = [99, 111, 110, 116, 97, 105, 110, 115] ∨ nm = [99, 111, 110, 116, 97, 105, 110, 115, 111, 119, 110] then pseContains s (decide (nm = [99, 111, 110, 116, 97, 105, 110, 115, 111, 119, 110])) j
 else if nm = [110, 116, 104, 45, 99, 104, 105, 108, 100] ∨ nm = [110, 116, 104, 45, 108, 97, 115, 116, 45, 99, 104, 105, 108, 100] ∨ nm = [110, 116, 104, 45, 111, 102, 45, 116, 121, 112, 101] ∨ nm = [110, 116, 104, 45, 108, 97, 115, 116, 45, 111, 102, 45, 116, 121, 112, 101] then
  pseNth s (decide (nm = [110, 116, 104, 45, 108, 97, 115, 116, 45, 99, 104, 105, 108, 100] ∨ nm = [110, 116, 104, 45, 108, 97, 115, 116, 45, 111, 102, 45, 116, 121, 112, 101])) (decide (nm = [110, 116, 104, 45, 111, 102, 45, 116, 121, 112, 101] ∨ nm = [110, 116, 104, 45, 108, 97, 115, 116, 45, 111, 102, 45, 116, 121, 112, 101])) j
 else match simpleOf nm with
  | some x => some (some x, [], j)
  | none =>
   if nm = [108, 97, 110, 103] then pseLang s j
   else match simpleOf2 nm with
    | some x => some (some x, [], j)
    | none => if elements.contains nm then some (none, nm, j) else none
def pse (i : Nat) : PseRes :=
 if s.length ≤ i + 1 then none
 else
  let must := decide (byteAt s (i + 1) = 58)
  match ident s (if must then i + 2 else i + 1) with
  | none => none
  | some (nm, j) => if must && !(elements.contains (Sp.lower nm)) then none else pseNamed s grp (Sp.lower nm) j
def simple (i : Nat) : Option PseRes :=
 if byteAt s i = 35 then some (match name s (i + 1) with | none => none | some (v, j) => some (some (.idt v), [], j))
 else if byteAt s i = 46 then some (match ident s (i + 1) with | none => none | some (v, j) => some (some (.cls v), [], j))
 else if byteAt s i = 91 then some (match attr s i with | none => none | some (x, j) => some (some x, [], j))
 else if byteAt s i = 58 then some (pse s grp i)
 else none
def seqGo (acc : Bool) : Nat → List IS → List UInt8 → Nat → Option (List IS × List UInt8 × Nat)
 | 0, l, pe, i => some (l, pe, i)
 | k + 1, l, pe, i =>
  if i < s.length then
   match simple s grp i with
   | none => some (l, pe, i)
   | some none => none
   | some (some (none, nm, j)) => if ¬ pe = [] then none else if acc = false then none else seqGo acc k l nm j
   | some (some (some x, _, j)) => if ¬ pe = [] then none else seqGo acc k (l ++ [x]) pe j
  else some (l, pe, i)
def seqEnd : Option (List IS × List UInt8 × Nat) → Option (IS × Nat)
 | none => none
 | some (l, pe, i) => match l with
  | [x] => if pe = [] then some (x, i) else some (.comp [x] pe, i)
  | l => some (.comp l pe, i)
def seqHead (i : Nat) : Option (List IS × Nat) :=
 if byteAt s i = 42 then some ([], if i + 3 < s.length ∧ byteAt s (i + 1) = 124 ∧ byteAt s (i + 2) = 42 then i + 3 else i + 1)
 else if byteAt s i = 35 ∨ byteAt s i = 46 ∨ byteAt s i = 91 ∨ byteAt s i = 58 then some ([], i)
 else match ident s i with
  | none => none
  | some (v, j) => some ([.tag (Sp.lower v)], j)
def seq (acc : Bool) (i : Nat) : Option (IS × Nat) :=
 if s.length ≤ i then none
 else match seqHead s i with
  | none => none
  | some (l, j) => seqEnd (seqGo s grp acc (s.length + 1) l [] j)
def selGo (acc : Bool) : Nat → IS → Nat → Option (IS × Nat)
 | 0, x, i => some (x, i)
 | k + 1, x, i =>
  let j := ws s i
  if s.length ≤ j then some (x, j)
  else
   let c := byteAt s j
   if c = 43 ∨ c = 62 ∨ c = 126 then
    match seq s grp acc (ws s (j + 1)) with
    | none => none
    | some (y, j) => selGo acc k (.comb x c y) j
   else if c = 44 ∨ c = 41 then some (x, j)
   else if i < j then
    match seq s grp acc j with
    | none => none
    | some (y, j) => selGo acc k (.comb x 32 y) j
   else some (x, j)
def sel (acc : Bool) (i : Nat) : Option (IS × Nat) :=
 match seq s grp acc (ws s i) with
 | none => none
 | some (x, j) => selGo s grp acc (s.length + 1) x j
def groupGo (acc : Bool) : Nat → List IS → Nat → Option (List IS × Nat)
 | 0, l, i => some (l, i)
 | k + 1, l, i =>
  if i < s.length ∧ byteAt s i = 44 then
   match sel s grp acc (i + 1) with
   | none => none
   | some (x, j) => groupGo acc k (l ++ [x]) j
  else some (l, i)
def groupW (acc : Bool) (i : Nat) : Option (List IS × Nat) :=
 match sel s grp acc i with
 | none => none
 | some (x, j) => groupGo s grp acc (s.length + 1) [x] j
end
def group (s : List UInt8) (acc : Bool) : Nat → Nat → Option (List IS × Nat)
 | 0, _ => none
 | k + 1, i => groupW s (group s acc k) acc i
def parsed (s : List UInt8) : Option (List IS) :=
 match group s true (s.length + 2) 0 with
 | none => none
 | some (l, i) => if i < s.length then none else some l
end Im
namespace Im
theorem hexEnd_le (s : List UInt8) : ∀ (k i : Nat), i ≤ hexEnd s k i ∧ hexEnd s k i ≤ i + k ∧ (i ≤ s.length → hexEnd s k i ≤ s.length)
 | 0, i => ⟨Nat.le_refl _, Nat.le_refl _, id⟩
 | k + 1, i => by
  rw [hexEnd]
  split
  ·rename_i h
   have := hexEnd_le s k (i + 1)
   exact ⟨by omega, by omega, fun _ => this.2.2 (by omega)⟩
  exact ⟨Nat.le_refl _, by omega, id⟩
theorem hexSkip_le (s : List UInt8) (j : Nat) : j ≤ hexSkip s j ∧ (j ≤ s.length → hexSkip s j ≤ s.length) := by
 unfold hexSkip
 split
 ·split
  ·split
   ·rename_i h; exact ⟨by omega, fun _ => by omega⟩
   exact ⟨by omega, fun _ => by omega⟩
  split
  ·exact ⟨by omega, fun _ => by omega⟩
  exact ⟨by omega, fun h => h⟩
 exact ⟨by omega, fun h => h⟩
theorem utf8_le (n : Nat) : (Sp.utf8 n).length ≤ 4 := Sp.utf8_le n
theorem escape_le {s : List UInt8} {i : Nat} {v : List UInt8} {j : Nat} (h : escape s i = some (v, j)) : i + 2 ≤ j ∧ j ≤ s.length ∧ v.length ≤ 4 := by
 unfold escape at h
 split at h
 ·cases h
 rename_i h1
 split at h
 ·cases h
 split at h
 ·rename_i h2
  simp only [Option.some.injEq, Prod.mk.injEq] at h
  obtain ⟨rfl, rfl⟩ := h
  have a1 := hexEnd_le s 6 (i + 1)
  have a2 := hexSkip_le s (hexEnd s 6 (i + 1))
  have a3 : i + 2 ≤ hexEnd s 6 (i + 1) := by
   rw [hexEnd, if_pos ⟨by omega, h2⟩]
   exact (hexEnd_le s 5 (i + 2)).1
  have a4 := a1.2.2 (by omega)
  have a5 := a2.2 a4
  exact ⟨by omega, a5, utf8_le _⟩
 simp only [Option.some.injEq, Prod.mk.injEq] at h
 obtain ⟨rfl, rfl⟩ := h
 refine ⟨by omega, by omega, ?_⟩
 simp only [List.length_take]
 omega
theorem nameRun_le (s : List UInt8) : ∀ (k i : Nat), i ≤ nameRun s k i ∧ (i ≤ s.length → nameRun s k i ≤ s.length)
 | 0, i => ⟨Nat.le_refl _, id⟩
 | k + 1, i => by
  rw [nameRun]
  split
  ·have := nameRun_le s k (i + 1)
   exact ⟨by omega, fun _ => this.2 (by omega)⟩
  exact ⟨Nat.le_refl _, id⟩
theorem nameRun_pos {s : List UInt8} {i : Nat} (h : i < s.length) (hc : nameChar (byteAt s i) = true) : i + 1 ≤ nameRun s s.length i := by
 obtain ⟨k, hk⟩ : ∃ k, s.length = k + 1 := ⟨s.length - 1, by omega⟩
 rw [hk, nameRun, if_pos ⟨h, hc⟩]
 exact (nameRun_le s k (i + 1)).1
theorem nameGo_le (s : List UInt8) : ∀ (k : Nat) (out : List UInt8) (i : Nat) (v : List UInt8) (j : Nat), i ≤ s.length → nameGo s k out i = some (v, j) → i ≤ j ∧ j ≤ s.length ∧ v.length ≤ out.length + 4 * (j - i)
 | 0, out, i, v, j, hi, h => by
  simp only [nameGo, Option.some.injEq, Prod.mk.injEq] at h
  obtain ⟨rfl, rfl⟩ := h
  exact ⟨Nat.le_refl _, hi, by omega⟩
 | k + 1, out, i, v, j, hi, h => by
  rw [nameGo] at h
  split at h
  ·rename_i hl
   split at h
   ·have a1 := nameRun_le s s.length i
    have a2 := a1.2 hi
    have := nameGo_le s k _ _ v j a2 h
    simp only [List.length_append, List.length_take, List.length_drop] at this
    omega
   split at h
   ·split at h
    ·cases h
    rename_i w q he
    have a1 := escape_le he
    have := nameGo_le s k _ _ v j a1.2.1 h
    simp only [List.length_append] at this
    omega
   simp only [Option.some.injEq, Prod.mk.injEq] at h
   obtain ⟨rfl, rfl⟩ := h
   exact ⟨Nat.le_refl _, hi, by omega⟩
  simp only [Option.some.injEq, Prod.mk.injEq] at h
  obtain ⟨rfl, rfl⟩ := h
  exact ⟨Nat.le_refl _, hi, by omega⟩
theorem name_le {s : List UInt8} {i : Nat} {v : List UInt8} {j : Nat} (hi : i ≤ s.length) (h : name s i = some (v, j)) : i + 1 ≤ j ∧ j ≤ s.length ∧ v.length ≤ 4 * (j - i) := by
 unfold name at h
 split at h
 ·cases h
 rename_i w q he
 split at h
 ·cases h
 rename_i hne
 simp only [Option.some.injEq, Prod.mk.injEq] at h
 obtain ⟨rfl, rfl⟩ := h
 have := nameGo_le s _ _ _ _ _ hi he
 simp only [List.length_nil] at this
 have hp : 0 < w.length := List.length_pos_iff.2 hne
 omega
theorem dashEnd_le (s : List UInt8) : ∀ (k i : Nat), i ≤ dashEnd s k i ∧ (i ≤ s.length → dashEnd s k i ≤ s.length)
 | 0, i => ⟨Nat.le_refl _, id⟩
 | k + 1, i => by
  rw [dashEnd]
  split
  ·have := dashEnd_le s k (i + 1)
   exact ⟨by omega, fun _ => this.2 (by omega)⟩
  exact ⟨Nat.le_refl _, id⟩
theorem ident_le {s : List UInt8} {i : Nat} {v : List UInt8} {j : Nat} (h : ident s i = some (v, j)) : i + 1 ≤ j ∧ j ≤ s.length ∧ v.length ≤ 4 * (j - i) := by
 unfold ident identAt at h
 have a1 := dashEnd_le s (s.length + 1) i
 split at h
 ·cases h
 split at h
 ·cases h
 split at h
 ·cases h
 rename_i w q he
 simp only [Option.some.injEq, Prod.mk.injEq] at h
 obtain ⟨rfl, rfl⟩ := h
 have a2 := name_le (by omega) he
 simp only [List.length_append, List.length_replicate]
 omega
theorem strRun_le (s : List UInt8) (q : Nat) : ∀ (k i : Nat), i ≤ strRun s q k i ∧ (i ≤ s.length → strRun s q k i ≤ s.length)
 | 0, i => ⟨Nat.le_refl _, id⟩
 | k + 1, i => by
  rw [strRun]
  split
  ·have := strRun_le s q k (i + 1)
   exact ⟨by omega, fun _ => this.2 (by omega)⟩
  exact ⟨Nat.le_refl _, id⟩
theorem strRun_pos {s : List UInt8} {q i : Nat} (h : i < s.length) (hc : ¬ (byteAt s i = q ∨ byteAt s i = 92 ∨ byteAt s i = 13 ∨ byteAt s i = 10 ∨ byteAt s i = 12)) : i + 1 ≤ strRun s q s.length i := by
 obtain ⟨k, hk⟩ : ∃ k, s.length = k + 1 := ⟨s.length - 1, by omega⟩
 rw [hk, strRun, if_pos ⟨h, hc⟩]
 exact (strRun_le s q k (i + 1)).1
theorem strGo_le (s : List UInt8) (q : Nat) : ∀ (k : Nat) (out : List UInt8) (i : Nat) (v : List UInt8) (j : Nat), strGo s q k out i = some (v, j) → i + 1 ≤ j ∧ j ≤ s.length ∧ v.length ≤ out.length + 4 * (j - i)
 | 0, out, i, v, j, h => by cases h
 | k + 1, out, i, v, j, h => by
  rw [strGo] at h
  split at h
  ·rename_i hl
   split at h
   ·split at h
    ·split at h
     ·have := strGo_le s q k _ _ v j h; omega
     have := strGo_le s q k _ _ v j h; omega
    split at h
    ·have := strGo_le s q k _ _ v j h; omega
    split at h
    ·cases h
    rename_i w p he
    have a1 := escape_le he
    have := strGo_le s q k _ _ v j h
    simp only [List.length_append] at this
    omega
   split at h
   ·simp only [Option.some.injEq, Prod.mk.injEq] at h
    obtain ⟨rfl, rfl⟩ := h
    exact ⟨Nat.le_refl _, by omega, by omega⟩
   split at h
   ·cases h
   have a1 := strRun_le s q s.length i
   have := strGo_le s q k _ _ v j h
   simp only [List.length_append, List.length_take, List.length_drop] at this
   omega
  cases h
theorem string_le {s : List UInt8} {i : Nat} {v : List UInt8} {j : Nat} (h : string s i = some (v, j)) : i + 2 ≤ j ∧ j ≤ s.length ∧ v.length ≤ 4 * (j - i) := by
 unfold string at h
 split at h
 ·cases h
 have := strGo_le s _ _ _ _ v j h
 simp only [List.length_nil] at this
 omega
theorem word_le {s : List UInt8} {i : Nat} {v : List UInt8} {j : Nat} (h : word s i = some (v, j)) : i + 1 ≤ j ∧ j ≤ s.length ∧ v.length ≤ 4 * (j - i) := by
 unfold word at h
 split at h
 ·have := string_le h; omega
 exact ident_le h
theorem wsGo_le (s : List UInt8) : ∀ (k i : Nat), i ≤ wsGo s k i ∧ (i ≤ s.length → wsGo s k i ≤ s.length)
 | 0, i => ⟨Nat.le_refl _, id⟩
 | k + 1, i => by
  rw [wsGo]
  split
  ·split
   ·have := wsGo_le s k (i + 1)
    exact ⟨by omega, fun _ => this.2 (by omega)⟩
   split
   ·split
    ·rename_i j hj
     have a1 := Sp.commentEnd_le _ _ _ _ hj
     have := wsGo_le s k j
     exact ⟨by omega, fun _ => this.2 (by omega)⟩
    exact ⟨Nat.le_refl _, id⟩
   exact ⟨Nat.le_refl _, id⟩
  exact ⟨Nat.le_refl _, id⟩
theorem ws_le (s : List UInt8) (i : Nat) : i ≤ ws s i ∧ (i ≤ s.length → ws s i ≤ s.length) := wsGo_le s _ i
theorem cparen_le {s : List UInt8} {i j : Nat} (h : cparen s i = some j) : i + 1 ≤ j ∧ j ≤ s.length := by
 unfold cparen at h
 split at h
 ·simp only [Option.some.injEq] at h
  have := ws_le s (i + 1)
  subst h
  exact ⟨this.1, this.2 (by omega)⟩
 cases h
theorem cclose_le {s : List UInt8} {i j : Nat} (h : cclose s i = some j) : i + 1 ≤ j ∧ j ≤ s.length := by
 unfold cclose at h
 split at h
 ·simp only [Option.some.injEq] at h
  have := ws_le s i
  subst h
  omega
 cases h
theorem digEnd_le (s : List UInt8) : ∀ (k i : Nat), i ≤ digEnd s k i ∧ (i ≤ s.length → digEnd s k i ≤ s.length)
 | 0, i => ⟨Nat.le_refl _, id⟩
 | k + 1, i => by
  rw [digEnd]
  split
  ·have := digEnd_le s k (i + 1)
   exact ⟨by omega, fun _ => this.2 (by omega)⟩
  exact ⟨Nat.le_refl _, id⟩
theorem integer_le {s : List UInt8} {i v j : Nat} (hi : i ≤ s.length) (h : integer s i = some (v, j)) : i + 1 ≤ j ∧ j ≤ s.length ∧ v < 9223372036854775808 := by
 unfold integer at h
 have a1 := digEnd_le s s.length i
 dsimp only at h
 split at h
 ·cases h
 split at h
 ·simp only [Option.some.injEq, Prod.mk.injEq] at h
  obtain ⟨rfl, rfl⟩ := h
  have := a1.2 hi
  exact ⟨by omega, this, by assumption⟩
 cases h
def Fits (a : Int) : Prop := -9223372036854775808 < a ∧ a < 9223372036854775808
theorem readN_le {s : List UInt8} {a0 a b : Int} {i j : Nat} (hi : i ≤ s.length) (ha : Fits a0) (h : readN s a0 i = some (a, b, j)) : i ≤ j ∧ j ≤ s.length ∧ Fits a ∧ Fits b := by
 unfold readN at h
 have a1 := ws_le s i
 have a2 := a1.2 hi
 dsimp only at h
 split at h
 ·cases h
 have a3 := ws_le s (ws s i + 1)
 have a4 := a3.2 (by omega)
 split at h
 ·split at h
  ·cases h
  rename_i v q he
  simp only [Option.some.injEq, Prod.mk.injEq] at h
  obtain ⟨rfl, rfl, rfl⟩ := h
  have := integer_le a4 he
  exact ⟨by omega, by omega, ha, by unfold Fits; omega⟩
 split at h
 ·split at h
  ·cases h
  rename_i v q he
  simp only [Option.some.injEq, Prod.mk.injEq] at h
  obtain ⟨rfl, rfl, rfl⟩ := h
  have := integer_le a4 he
  exact ⟨by omega, by omega, ha, by unfold Fits; omega⟩
 simp only [Option.some.injEq, Prod.mk.injEq] at h
 obtain ⟨rfl, rfl, rfl⟩ := h
 exact ⟨by omega, by omega, ha, by unfold Fits; omega⟩
theorem readA_le {s : List UInt8} {neg : Bool} {a b : Int} {i j : Nat} (hi : i ≤ s.length) (h : readA s neg i = some (a, b, j)) : i + 1 ≤ j ∧ j ≤ s.length ∧ Fits a ∧ Fits b := by
 unfold readA at h
 split at h
 ·cases h
 split at h
 ·split at h
  ·cases h
  rename_i v q he
  have a1 := integer_le hi he
  have hf : Fits (if neg = true then -(v : Int) else (v : Int)) := by unfold Fits; split <;> omega
  dsimp only at h
  generalize (if neg = true then -(v : Int) else (v : Int)) = a0 at h hf
  split at h
  ·cases h
  split at h
  ·have := readN_le (by omega) hf h
   exact ⟨by omega, this.2⟩
  simp only [Option.some.injEq, Prod.mk.injEq] at h
  obtain ⟨rfl, rfl, rfl⟩ := h
  exact ⟨by omega, by omega, by unfold Fits; omega, hf⟩
 split at h
 ·have := readN_le (by omega) (by unfold Fits; split <;> omega) h
  exact ⟨by omega, this.2⟩
 cases h
theorem nth_le {s : List UInt8} {a b : Int} {i j : Nat} (hi : i ≤ s.length) (h : nth s i = some (a, b, j)) : i + 1 ≤ j ∧ j ≤ s.length ∧ Fits a ∧ Fits b := by
 unfold nth at h
 split at h
 ·cases h
 split at h
 ·have := readA_le (by omega) h; exact ⟨by omega, this.2⟩
 split at h
 ·have := readA_le (by omega) h; exact ⟨by omega, this.2⟩
 split at h
 ·exact readA_le hi h
 split at h
 ·have := readN_le (by omega) (by unfold Fits; omega) h; exact ⟨by omega, this.2⟩
 split at h
 ·split at h
  ·cases h
  rename_i v q he
  have a1 := name_le hi he
  split at h
  ·simp only [Option.some.injEq, Prod.mk.injEq] at h
   obtain ⟨rfl, rfl, rfl⟩ := h
   exact ⟨by omega, by omega, by unfold Fits; omega, by unfold Fits; omega⟩
  split at h
  ·simp only [Option.some.injEq, Prod.mk.injEq] at h
   obtain ⟨rfl, rfl, rfl⟩ := h
   exact ⟨by omega, by omega, by unfold Fits; omega, by unfold Fits; omega⟩
  cases h
 cases h
end Im
mutual
def IS.wt : IS → Nat
 | .tag t => t.length
 | .cls t => 2 * t.length + 1
 | .idt t => 2 * t.length + 1
 | .attr key val op _ => key.length + val.length + op.length + 6
 | .rel nm g => nm.length + 3 + IS.wtL g
 | .contains v _ => v.length + 16
 | .nth _ _ _ _ => 70
 | .only _ => 14
 | .flat _ => 12
 | .lang v => v.length + 7
 | .never v => v.length
 | .comp l pe => IS.wtL l + pe.length + 3
 | .comb a _ b => a.wt + 3 + b.wt
def IS.wtL : List IS → Nat
 | [] => 0
 | x :: r => x.wt + 2 + IS.wtL r
end
theorem IS.wtL_append (a b : List IS) : IS.wtL (a ++ b) = IS.wtL a + IS.wtL b := by
 induction a with
 | nil => simp [IS.wtL]
 | cons x r ih => rw [List.cons_append, IS.wtL, IS.wtL, ih]; omega
end Go.Proofs.YtogfnbkccfkpoaaGreatDoor
set_option linter.unusedSectionVars false
namespace Go.Proofs.YtogfnbkccfkpoaaGreatDoor
open Go Go.RowKit
open Eng
abbrev PD (p : Nat) (s : List UInt8) (i d : Nat) (acc : Bool) (w : World) : Prop := Blk w p 63 [str s, .int .i64 (i : Int), .int .i64 (d : Int), .bool acc]
def ErrV (v : Value) : Prop := ∃ t u, v = .iface t u
def PRes {α : Type} (p : Nat) (s : List UInt8) (d : Nat) (acc : Bool) (w0 : World) (f : α → Value) : Option (α × Nat) → Value → World → Prop
 | none, v, w' => ∃ r e i, v = .tuple #[r, e] ∧ ErrV e ∧ PD p s i d acc w' ∧ Gr w0 w' (some p)
 | some (x, i), v, w' => v = .tuple #[f x, .nilIface] ∧ PD p s i d acc w' ∧ Gr w0 w' (some p)
namespace Eng
section
variable [Df]
variable {P : Program} {Q : Post} {ops : Array Oper} {rest : List Oper} {n : Nat} {l : Fr} {w w' : World} {v : Value} {dst : Option Nat} {d : Nat} {ty : TypeId} {pos : String} {af : Array Edge} {g : Option (Nat × Bool)} {x y z : Operand} {b k : Nat} {t u : TypeId} {cs : List Value}
theorem run_eqIface (hu : isIfc P t = some true) (x y : Value) (r : Bool) (h : (match x, y with | .nilIface, .nilIface => some true | .nilIface, .iface _ _ => some false | .iface _ _, .nilIface => some false | _, _ => none) = some r) (w : World) : (Op.equal t x y).run P w = .ok r w := by
 unfold isIfc at hu
 cases hq : P.underlying t with
 | none => simp [hq] at hu
 | some dd =>
  cases dd <;> simp only [hq, Option.map_some] at hu <;> try (cases hu; done)
  rename_i ms
  show (Op.equalIn (Op.maxDepth - 1 + 1) t x y).run P w = .ok r w
  unfold Op.equalIn
  simp only [Sem.run_bind, run_underlying hq, Result.andThen_ok]
  cases x <;> cases y <;> simp at h <;> subst h <;> rfl
theorem R.neNilT {tt : TypeId} {v0 : Value} (hu : isIfc P t = some true) (hx : ev l x = some (.iface tt v0)) : Runs P n l ⟨dst, .binOp .neq t x (.const .nilIface) u, ty, pos, af, g⟩ w (.value (.bool true)) w := fun a ha => by
 simp only [execOp, ha.ev hx]
 simp [eqGuard, binOp, Act.eval, run_eqIface hu (.iface tt v0) .nilIface false rfl]
theorem R.neNilF (hu : isIfc P t = some true) (hx : ev l x = some .nilIface) : Runs P n l ⟨dst, .binOp .neq t x (.const .nilIface) u, ty, pos, af, g⟩ w (.value (.bool false)) w := fun a ha => by
 simp only [execOp, ha.ev hx]
 simp [eqGuard, binOp, Act.eval, run_eqIface hu .nilIface .nilIface true rfl]
theorem R.eqNilT (hu : isIfc P t = some true) (hx : ev l x = some .nilIface) : Runs P n l ⟨dst, .binOp .eql t x (.const .nilIface) u, ty, pos, af, g⟩ w (.value (.bool true)) w := fun a ha => by
 simp only [execOp, ha.ev hx]
 simp [eqGuard, binOp, Act.eval, run_eqIface hu .nilIface .nilIface true rfl]
theorem R.eqNilF {tt : TypeId} {v0 : Value} (hu : isIfc P t = some true) (hx : ev l x = some (.iface tt v0)) : Runs P n l ⟨dst, .binOp .eql t x (.const .nilIface) u, ty, pos, af, g⟩ w (.value (.bool false)) w := fun a ha => by
 simp only [execOp, ha.ev hx]
 simp [eqGuard, binOp, Act.eval, run_eqIface hu (.iface tt v0) .nilIface false rfl]
theorem run_eqSlice (hu : (slElem P t).isSome = true) (x : Value) (r : Bool) (h : x = .slice none 0 0 ∧ r = true ∨ (∃ ad m c, x = .slice (some ad) m c) ∧ r = false) (w : World) : (Op.equal t x (.slice none 0 0)).run P w = .ok r w := by
 unfold slElem at hu
 cases hq : P.underlying t with
 | none => simp [hq] at hu
 | some dd =>
  cases dd <;> simp only [hq] at hu <;> try (cases hu; done)
  show (Op.equalIn (Op.maxDepth - 1 + 1) t x (.slice none 0 0)).run P w = .ok r w
  unfold Op.equalIn
  simp only [Sem.run_bind, run_underlying hq, Result.andThen_ok]
  rcases h with ⟨rfl, rfl⟩ | ⟨⟨ad, m, c, rfl⟩, rfl⟩ <;> simp
theorem R.slNilT (hu : (slElem P t).isSome = true) (hx : ev l x = some (.slice none 0 0)) : Runs P n l ⟨dst, .binOp .eql t x (.const (.slice none 0 0)) u, ty, pos, af, g⟩ w (.value (.bool true)) w := fun a ha => by
 simp only [execOp, ha.ev hx]
 simp [eqGuard, binOp, Act.eval, run_eqSlice hu (.slice none 0 0) true (.inl ⟨rfl, rfl⟩)]
theorem R.slNilF {ad : Addr} {m c : Nat} (hu : (slElem P t).isSome = true) (hx : ev l x = some (.slice (some ad) m c)) : Runs P n l ⟨dst, .binOp .eql t x (.const (.slice none 0 0)) u, ty, pos, af, g⟩ w (.value (.bool false)) w := fun a ha => by
 simp only [execOp, ha.ev hx]
 simp [eqGuard, binOp, Act.eval, run_eqSlice hu (.slice (some ad) m c) false (.inr ⟨⟨_, _, _, rfl⟩, rfl⟩)]
theorem W.makeB {m : Nat} (h83 : t = 83) (hP : P.underlying t = some (.slice 5)) (hI : (P.info? 5).map (fun i => (i.zero, i.size, i.bytes)) = some (some (.int .u8 0), 1, 1)) (hx : ev l x = some (.int .i64 (m : Int))) (hm : m ≤ 100000) (hdn : Nat.blt d n = true)
 (h : ∀ w' b, b = w.heap.size → Blk w' b 5 (List.replicate m (.int .u8 0)) → Gr w w' none → W P ops Q n rest ((d, .slice (some ⟨b, 0, none⟩) m m) :: l) w') : W P ops Q n (⟨some d, .makeSlice t x x, ty, pos, af, none⟩ :: rest) l w := by
 have hmade : madeCells #[.int .u8 0] m = (List.replicate m (.int .u8 0)).toArray := by
  apply Array.ext
  ·simp [madeCells]
  intro i h1 h2
  simp [madeCells, Nat.mod_one]
 refine W.q (v := .slice (some ⟨w.heap.size, 0, none⟩) m m) (w' := w.alloc (.cells (List.replicate m (.int .u8 0)).toArray 5 (0, 0))) ?_ rfl rfl hdn (h _ _ rfl (Blk.new w 5 _).1 (Blk.new w 5 _).2)
 intro a ha
 have hrun := run_make_row' (P := P) t 5 (.int .u8 0) 1 hP hI rfl .i64 .i64 m om om w
 rw [hmade] at hrun
 simp only [execOp, ha.ev hx]
 simp [hrun]
theorem W.copyS {s : List UInt8} {m : Nat} {st : TypeId} (hP : P.underlying t = some (.slice 5)) (hI : (P.info? 5).map (·.size) = some 1) (hx : ev l x = some (.slice (some ⟨b, 0, none⟩) s.length m)) (hy : ev l y = some (str s)) (hb : Blk w b 5 (List.replicate s.length (.int .u8 0))) (hdn : Nat.blt d n = true)
 (h : ∀ w', BB w' b s → Gr w w' (some b) → W P ops Q n rest ((d, .int .i64 (s.length : Int)) :: l) w') : W P ops Q n (⟨some d, .call ⟨.builtin .copy, #[x, y], #[t, st]⟩, ty, pos, af, none⟩ :: rest) l w := by
 have hsz : (⟨s.toArray⟩ : ByteArray).size = s.length := by simp [ByteArray.size]
 have hl := hb.lt
 have hrun := Lib.run_copy_row_string (P := P) w t st ty 5 b 0 s.length m ⟨s.toArray⟩ _ 5 hP hI hb (by rw [hsz]; exact Nat.le_refl _) (by rw [hsz]; simp)
 rw [hsz] at hrun
 have hc : (List.replicate s.length (Value.int .u8 0)).toArray.toList.take 0 ++ Lib.byteCells s.toArray.toList ++ (List.replicate s.length (Value.int .u8 0)).toArray.toList.drop (0 + s.length) = s.map byteV := by
  simp [Lib.byteCells]
 rw [hc] at hrun
 refine W.q (v := .int .i64 (s.length : Int)) (w' := w.setRow b (s.map byteV).toArray) ?_ rfl rfl hdn (h _ ?_ ?_)
 ·intro a ha
  simp only [execOp, ha.ev hx, ha.ev hy]
  simp [execOp, resolve, invoke, builtin, ha.ev hx, ha.ev hy, hrun, goInt]
 ·refine ⟨[], (0, 0), ?_, fun k _ => by simp⟩
  unfold Blk at hb
  simp only [World.setRow, Array.getElem?_modify, if_true, hb, Option.map_some]
  simp
 refine ⟨rfl, rfl, rfl, by simp [World.setRow], fun i hi hn => ?_⟩
 simp only [World.setRow, Array.getElem?_modify]
 rw [if_neg (by intro e; exact hn (by simp [e]))]
end
end Eng
theorem ifc44 : isIfc PR 44 = some true := by kernel_rfl
theorem ifc48 : isIfc PR 48 = some true := by kernel_rfl
theorem mi73 : isIfc PR 73 = some false := by kernel_rfl
theorem i5z : (PR.info? 5).map (fun i => (i.zero, i.size, i.bytes)) = some (some (.int .u8 0), 1, 1) := by kernel_rfl
theorem i5s : (PR.info? 5).map (·.size) = some 1 := by kernel_rfl
theorem hexDigit_calls (c : Nat) (w0 : World) :
 CR PR 87 [.int .u8 (c : Int)] w0 fun v w' => v = .bool (Im.hexDigit c) ∧ Gr w0 w' none := by
 have hG : Gr w0 w0 none := Gr.refl _ _
 refine CR.of (n := 25) [(0, .int .u8 (c : Int))] Tryz.func87 rfl Tryz.ntmps87 rfl ⟨rfl, trivial⟩<|qr<|pr 1 rfl<|nsqr<|pr 1 rfl<|W.split (R.leI rfl rfl) rfl rfl rfl (fun h1 => ?_) (fun h1 => ?_)
 ·refine pr 2 rfl<|gg (R.leI rfl rfl) rfl<|W.split (R.pickT rfl rfl) rfl rfl rfl (fun h2 => ?_) (fun h2 => ?_)
  ·refine pr 17 rfl<|nst<|rA rfl rfl ⟨bI ?_, hG⟩
   first | (exfalso; omega) | (simp [Im.hexDigit]; omega)
  refine pr 2 rfl<|W.gsplit rfl (R.leI rfl rfl) rfl rfl rfl (fun h3 => ?_) (fun h3 => ?_)
  ·refine pr 2 rfl<|gg (R.leI rfl rfl) rfl<|pr 1 rfl<|W.split (R.pickF rfl rfl) rfl rfl rfl (fun h4 => ?_) (fun h4 => ?_)
   ·refine pr 9 rfl<|nst<|rA rfl rfl ⟨bI ?_, hG⟩
    first | (exfalso; omega) | (simp [Im.hexDigit]; omega)
   refine pr 2 rfl<|W.gsplit rfl (R.leI rfl rfl) rfl rfl rfl (fun h5 => ?_) (fun h5 => ?_)
   ·refine pr 2 rfl<|gg (R.leI rfl rfl) rfl<|pr 3 rfl<|nst<|rA rfl rfl ⟨bI ?_, hG⟩
    first | (exfalso; omega) | (simp [Im.hexDigit]; omega)
   refine pr 6 rfl<|nst<|rA rfl rfl ⟨bI ?_, hG⟩
   first | (exfalso; omega) | (simp [Im.hexDigit]; omega)
  refine pr 7 rfl<|W.gsplit rfl (R.leI rfl rfl) rfl rfl rfl (fun h6 => ?_) (fun h6 => ?_)
  ·refine pr 2 rfl<|gg (R.leI rfl rfl) rfl<|pr 3 rfl<|nst<|rA rfl rfl ⟨bI ?_, hG⟩
   first | (exfalso; omega) | (simp [Im.hexDigit]; omega)
  refine pr 6 rfl<|nst<|rA rfl rfl ⟨bI ?_, hG⟩
  first | (exfalso; omega) | (simp [Im.hexDigit]; omega)
 refine pr 6 rfl<|W.gsplit rfl (R.leI rfl rfl) rfl rfl rfl (fun h7 => ?_) (fun h7 => ?_)
 ·refine pr 2 rfl<|gg (R.leI rfl rfl) rfl<|pr 1 rfl<|W.split (R.pickF rfl rfl) rfl rfl rfl (fun h8 => ?_) (fun h8 => ?_)
  ·refine pr 9 rfl<|nst<|rA rfl rfl ⟨bI ?_, hG⟩
   first | (exfalso; omega) | (simp [Im.hexDigit]; omega)
  refine pr 2 rfl<|W.gsplit rfl (R.leI rfl rfl) rfl rfl rfl (fun h9 => ?_) (fun h9 => ?_)
  ·refine pr 2 rfl<|gg (R.leI rfl rfl) rfl<|pr 3 rfl<|nst<|rA rfl rfl ⟨bI ?_, hG⟩
   first | (exfalso; omega) | (simp [Im.hexDigit]; omega)
  refine pr 6 rfl<|nst<|rA rfl rfl ⟨bI ?_, hG⟩
  first | (exfalso; omega) | (simp [Im.hexDigit]; omega)
 refine pr 7 rfl<|W.gsplit rfl (R.leI rfl rfl) rfl rfl rfl (fun h10 => ?_) (fun h10 => ?_)
 ·refine pr 2 rfl<|gg (R.leI rfl rfl) rfl<|pr 3 rfl<|nst<|rA rfl rfl ⟨bI ?_, hG⟩
  first | (exfalso; omega) | (simp [Im.hexDigit]; omega)
 refine pr 6 rfl<|nst<|rA rfl rfl ⟨bI ?_, hG⟩
 first | (exfalso; omega) | (simp [Im.hexDigit]; omega)
theorem nameStart_calls (c : Nat) (w0 : World) :
 CR PR 75 [.int .u8 (c : Int)] w0 fun v w' => v = .bool (Im.nameStart c) ∧ Gr w0 w' none := by
 have hG : Gr w0 w0 none := Gr.refl _ _
 refine CR.of (n := 25) [(0, .int .u8 (c : Int))] Tryz.func75 rfl Tryz.ntmps75 rfl ⟨rfl, trivial⟩<|qr<|pr 1 rfl<|nsqr<|pr 1 rfl<|W.split (R.leI rfl rfl) rfl rfl rfl (fun h1 => ?_) (fun h1 => ?_)
 ·refine pr 2 rfl<|gg (R.leI rfl rfl) rfl<|W.split (R.pickT rfl rfl) rfl rfl rfl (fun h2 => ?_) (fun h2 => ?_)
  ·refine pr 17 rfl<|nst<|rA rfl rfl ⟨bI ?_, hG⟩
   first | (exfalso; omega) | (simp [Im.nameStart]; omega)
  refine pr 2 rfl<|W.gsplit rfl (R.leI rfl rfl) rfl rfl rfl (fun h3 => ?_) (fun h3 => ?_)
  ·refine pr 2 rfl<|gg (R.leI rfl rfl) rfl<|pr 1 rfl<|W.split (R.pickF rfl rfl) rfl rfl rfl (fun h4 => ?_) (fun h4 => ?_)
   ·refine pr 9 rfl<|nst<|rA rfl rfl ⟨bI ?_, hG⟩
    first | (exfalso; omega) | (simp [Im.nameStart]; omega)
   refine pr 2 rfl<|gg (R.eqI rfl rfl) rfl<|W.split (R.pickF rfl rfl) rfl rfl rfl (fun h5 => ?_) (fun h5 => ?_)
   ·refine pr 5 rfl<|nst<|rA rfl rfl ⟨bI ?_, hG⟩
    first | (exfalso; omega) | (simp [Im.nameStart]; omega)
   refine pr 2 rfl<|gg (R.gtI rfl rfl) rfl<|pr 2 rfl<|nst<|rA rfl rfl ⟨bI ?_, hG⟩
   first | (exfalso; omega) | (simp [Im.nameStart]; omega)
  refine pr 7 rfl<|gg (R.eqI rfl rfl) rfl<|W.split (R.pickF rfl rfl) rfl rfl rfl (fun h6 => ?_) (fun h6 => ?_)
  ·refine pr 5 rfl<|nst<|rA rfl rfl ⟨bI ?_, hG⟩
   first | (exfalso; omega) | (simp [Im.nameStart]; omega)
  refine pr 2 rfl<|gg (R.gtI rfl rfl) rfl<|pr 2 rfl<|nst<|rA rfl rfl ⟨bI ?_, hG⟩
  first | (exfalso; omega) | (simp [Im.nameStart]; omega)
 refine pr 6 rfl<|W.gsplit rfl (R.leI rfl rfl) rfl rfl rfl (fun h7 => ?_) (fun h7 => ?_)
 ·refine pr 2 rfl<|gg (R.leI rfl rfl) rfl<|pr 1 rfl<|W.split (R.pickF rfl rfl) rfl rfl rfl (fun h8 => ?_) (fun h8 => ?_)
  ·refine pr 9 rfl<|nst<|rA rfl rfl ⟨bI ?_, hG⟩
   first | (exfalso; omega) | (simp [Im.nameStart]; omega)
  refine pr 2 rfl<|gg (R.eqI rfl rfl) rfl<|W.split (R.pickF rfl rfl) rfl rfl rfl (fun h9 => ?_) (fun h9 => ?_)
  ·refine pr 5 rfl<|nst<|rA rfl rfl ⟨bI ?_, hG⟩
   first | (exfalso; omega) | (simp [Im.nameStart]; omega)
  refine pr 2 rfl<|gg (R.gtI rfl rfl) rfl<|pr 2 rfl<|nst<|rA rfl rfl ⟨bI ?_, hG⟩
  first | (exfalso; omega) | (simp [Im.nameStart]; omega)
 refine pr 7 rfl<|gg (R.eqI rfl rfl) rfl<|W.split (R.pickF rfl rfl) rfl rfl rfl (fun h10 => ?_) (fun h10 => ?_)
 ·refine pr 5 rfl<|nst<|rA rfl rfl ⟨bI ?_, hG⟩
  first | (exfalso; omega) | (simp [Im.nameStart]; omega)
 refine pr 2 rfl<|gg (R.gtI rfl rfl) rfl<|pr 2 rfl<|nst<|rA rfl rfl ⟨bI ?_, hG⟩
 first | (exfalso; omega) | (simp [Im.nameStart]; omega)
theorem nameChar_calls (c : Nat) (w0 : World) :
 CR PR 77 [.int .u8 (c : Int)] w0 fun v w' => v = .bool (Im.nameChar c) ∧ Gr w0 w' none := by
 have hG : Gr w0 w0 none := Gr.refl _ _
 refine CR.of (n := 37) [(0, .int .u8 (c : Int))] Tryz.func77 rfl Tryz.ntmps77 rfl ⟨rfl, trivial⟩<|qr<|pr 1 rfl<|nsqr<|pr 1 rfl<|W.split (R.leI rfl rfl) rfl rfl rfl (fun h1 => ?_) (fun h1 => ?_)
 ·refine pr 2 rfl<|gg (R.leI rfl rfl) rfl<|W.split (R.pickT rfl rfl) rfl rfl rfl (fun h2 => ?_) (fun h2 => ?_)
  ·refine pr 29 rfl<|nst<|rA rfl rfl ⟨bI ?_, hG⟩
   first | (exfalso; omega) | (simp [Im.nameChar]; omega)
  refine pr 2 rfl<|W.gsplit rfl (R.leI rfl rfl) rfl rfl rfl (fun h3 => ?_) (fun h3 => ?_)
  ·refine pr 2 rfl<|gg (R.leI rfl rfl) rfl<|pr 1 rfl<|W.split (R.pickF rfl rfl) rfl rfl rfl (fun h4 => ?_) (fun h4 => ?_)
   ·refine pr 21 rfl<|nst<|rA rfl rfl ⟨bI ?_, hG⟩
    first | (exfalso; omega) | (simp [Im.nameChar]; omega)
   refine pr 2 rfl<|gg (R.eqI rfl rfl) rfl<|W.split (R.pickF rfl rfl) rfl rfl rfl (fun h5 => ?_) (fun h5 => ?_)
   ·refine pr 17 rfl<|nst<|rA rfl rfl ⟨bI ?_, hG⟩
    first | (exfalso; omega) | (simp [Im.nameChar]; omega)
   refine pr 2 rfl<|gg (R.gtI rfl rfl) rfl<|W.split (R.pickF rfl rfl) rfl rfl rfl (fun h6 => ?_) (fun h6 => ?_)
   ·refine pr 13 rfl<|nst<|rA rfl rfl ⟨bI ?_, hG⟩
    first | (exfalso; omega) | (simp [Im.nameChar]; omega)
   refine pr 2 rfl<|gg (R.eqI rfl rfl) rfl<|W.split (R.pickF rfl rfl) rfl rfl rfl (fun h7 => ?_) (fun h7 => ?_)
   ·refine pr 9 rfl<|nst<|rA rfl rfl ⟨bI ?_, hG⟩
    first | (exfalso; omega) | (simp [Im.nameChar]; omega)
   refine pr 2 rfl<|W.gsplit rfl (R.leI rfl rfl) rfl rfl rfl (fun h8 => ?_) (fun h8 => ?_)
   ·refine pr 2 rfl<|gg (R.leI rfl rfl) rfl<|pr 3 rfl<|nst<|rA rfl rfl ⟨bI ?_, hG⟩
    first | (exfalso; omega) | (simp [Im.nameChar]; omega)
   refine pr 6 rfl<|nst<|rA rfl rfl ⟨bI ?_, hG⟩
   first | (exfalso; omega) | (simp [Im.nameChar]; omega)
  refine pr 7 rfl<|gg (R.eqI rfl rfl) rfl<|W.split (R.pickF rfl rfl) rfl rfl rfl (fun h9 => ?_) (fun h9 => ?_)
  ·refine pr 17 rfl<|nst<|rA rfl rfl ⟨bI ?_, hG⟩
   first | (exfalso; omega) | (simp [Im.nameChar]; omega)
  refine pr 2 rfl<|gg (R.gtI rfl rfl) rfl<|W.split (R.pickF rfl rfl) rfl rfl rfl (fun h10 => ?_) (fun h10 => ?_)
  ·refine pr 13 rfl<|nst<|rA rfl rfl ⟨bI ?_, hG⟩
   first | (exfalso; omega) | (simp [Im.nameChar]; omega)
  refine pr 2 rfl<|gg (R.eqI rfl rfl) rfl<|W.split (R.pickF rfl rfl) rfl rfl rfl (fun h11 => ?_) (fun h11 => ?_)
  ·refine pr 9 rfl<|nst<|rA rfl rfl ⟨bI ?_, hG⟩
   first | (exfalso; omega) | (simp [Im.nameChar]; omega)
  refine pr 2 rfl<|W.gsplit rfl (R.leI rfl rfl) rfl rfl rfl (fun h12 => ?_) (fun h12 => ?_)
  ·refine pr 2 rfl<|gg (R.leI rfl rfl) rfl<|pr 3 rfl<|nst<|rA rfl rfl ⟨bI ?_, hG⟩
   first | (exfalso; omega) | (simp [Im.nameChar]; omega)
  refine pr 6 rfl<|nst<|rA rfl rfl ⟨bI ?_, hG⟩
  first | (exfalso; omega) | (simp [Im.nameChar]; omega)
 refine pr 6 rfl<|W.gsplit rfl (R.leI rfl rfl) rfl rfl rfl (fun h13 => ?_) (fun h13 => ?_)
 ·refine pr 2 rfl<|gg (R.leI rfl rfl) rfl<|pr 1 rfl<|W.split (R.pickF rfl rfl) rfl rfl rfl (fun h14 => ?_) (fun h14 => ?_)
  ·refine pr 21 rfl<|nst<|rA rfl rfl ⟨bI ?_, hG⟩
   first | (exfalso; omega) | (simp [Im.nameChar]; omega)
  refine pr 2 rfl<|gg (R.eqI rfl rfl) rfl<|W.split (R.pickF rfl rfl) rfl rfl rfl (fun h15 => ?_) (fun h15 => ?_)
  ·refine pr 17 rfl<|nst<|rA rfl rfl ⟨bI ?_, hG⟩
   first | (exfalso; omega) | (simp [Im.nameChar]; omega)
  refine pr 2 rfl<|gg (R.gtI rfl rfl) rfl<|W.split (R.pickF rfl rfl) rfl rfl rfl (fun h16 => ?_) (fun h16 => ?_)
  ·refine pr 13 rfl<|nst<|rA rfl rfl ⟨bI ?_, hG⟩
   first | (exfalso; omega) | (simp [Im.nameChar]; omega)
  refine pr 2 rfl<|gg (R.eqI rfl rfl) rfl<|W.split (R.pickF rfl rfl) rfl rfl rfl (fun h17 => ?_) (fun h17 => ?_)
  ·refine pr 9 rfl<|nst<|rA rfl rfl ⟨bI ?_, hG⟩
   first | (exfalso; omega) | (simp [Im.nameChar]; omega)
  refine pr 2 rfl<|W.gsplit rfl (R.leI rfl rfl) rfl rfl rfl (fun h18 => ?_) (fun h18 => ?_)
  ·refine pr 2 rfl<|gg (R.leI rfl rfl) rfl<|pr 3 rfl<|nst<|rA rfl rfl ⟨bI ?_, hG⟩
   first | (exfalso; omega) | (simp [Im.nameChar]; omega)
  refine pr 6 rfl<|nst<|rA rfl rfl ⟨bI ?_, hG⟩
  first | (exfalso; omega) | (simp [Im.nameChar]; omega)
 refine pr 7 rfl<|gg (R.eqI rfl rfl) rfl<|W.split (R.pickF rfl rfl) rfl rfl rfl (fun h19 => ?_) (fun h19 => ?_)
 ·refine pr 17 rfl<|nst<|rA rfl rfl ⟨bI ?_, hG⟩
  first | (exfalso; omega) | (simp [Im.nameChar]; omega)
 refine pr 2 rfl<|gg (R.gtI rfl rfl) rfl<|W.split (R.pickF rfl rfl) rfl rfl rfl (fun h20 => ?_) (fun h20 => ?_)
 ·refine pr 13 rfl<|nst<|rA rfl rfl ⟨bI ?_, hG⟩
  first | (exfalso; omega) | (simp [Im.nameChar]; omega)
 refine pr 2 rfl<|gg (R.eqI rfl rfl) rfl<|W.split (R.pickF rfl rfl) rfl rfl rfl (fun h21 => ?_) (fun h21 => ?_)
 ·refine pr 9 rfl<|nst<|rA rfl rfl ⟨bI ?_, hG⟩
  first | (exfalso; omega) | (simp [Im.nameChar]; omega)
 refine pr 2 rfl<|W.gsplit rfl (R.leI rfl rfl) rfl rfl rfl (fun h22 => ?_) (fun h22 => ?_)
 ·refine pr 2 rfl<|gg (R.leI rfl rfl) rfl<|pr 3 rfl<|nst<|rA rfl rfl ⟨bI ?_, hG⟩
  first | (exfalso; omega) | (simp [Im.nameChar]; omega)
 refine pr 6 rfl<|nst<|rA rfl rfl ⟨bI ?_, hG⟩
 first | (exfalso; omega) | (simp [Im.nameChar]; omega)
theorem errNew_calls (t : List UInt8) (w0 : World) :
 CR PR 21 [str t] w0 fun v w' => ErrV v ∧ Gr w0 w' none := by
 have hG : Gr w0 w0 none := Gr.refl _ _
 refine CR.of (n := 7) [(0, str t)] Tryz.func21 rfl Tryz.ntmps21 rfl ⟨rfl, trivial⟩<|qr<|pr 1 rfl<|nsqr<|pr 1 rfl<|qq (R.build (vs := [str t]) (ps := [(0, str t)]) (fun a ha => by simp [ha.ev (x := .tmp 3) rfl]) kR) rfl<|W.box (vs := [str t]) rfl rfl rfl fun w q hq hB hv => ?_
 have hG := hG.trans hv
 exact qq (R.mkI rfl mi73) rfl<|pr 1 rfl<|nst<|rA rfl rfl ⟨⟨_, _, rfl⟩, hG⟩
theorem hasPrefix0_calls (s t : List UInt8) (w0 : World) (hs : s.length ≤ 100000) (ht : t.length ≤ 100000) :
 CR PR 61 [str s, str t] w0 fun v w' => v = .bool (decide (t.length ≤ s.length ∧ s.take t.length = t)) ∧ Gr w0 w' none := by
 have hG : Gr w0 w0 none := Gr.refl _ _
 refine CR.of (n := 18) [(0, str s), (1, str t)] Tryz.func61 rfl Tryz.ntmps61 rfl ⟨rfl, rfl, trivial⟩<|qr<|pr 1 rfl<|nsqr<|pr 1 rfl<|qq (R.lenS rfl u9) rfl<|pr 1 rfl<|qq (R.lenS rfl u9) rfl<|W.split (R.geI rfl rfl) rfl rfl rfl (fun h1 => ?_) (fun h1 => ?_)
 ·refine pr 3 rfl<|gg (R.lenS rfl u9) rfl<|gg (R.sliceTo rfl rfl rfl om u9) rfl<|pr 1 rfl<|W.gsplit rfl (R.eqS rfl rfl) rfl rfl rfl (fun h2 => ?_) (fun h2 => ?_)
  ·refine pr 2 rfl<|nst<|rA rfl rfl ⟨congrArg Value.bool ?_, hG⟩
   first | exact (decide_eq_true ⟨om, by assumption⟩).symm | exact (decide_eq_false (by intro hq; first | (have := hq.1; omega) | exact absurd hq.2 aM)).symm
  refine pr 2 rfl<|nst<|rA rfl rfl ⟨congrArg Value.bool ?_, hG⟩
  first | exact (decide_eq_true ⟨om, by assumption⟩).symm | exact (decide_eq_false (by intro hq; first | (have := hq.1; omega) | exact absurd hq.2 aM)).symm
 refine pr 9 rfl<|nst<|rA rfl rfl ⟨congrArg Value.bool ?_, hG⟩
 first | exact (decide_eq_true ⟨om, by assumption⟩).symm | exact (decide_eq_false (by intro hq; first | (have := hq.1; omega) | exact absurd hq.2 aM)).symm
theorem hasPrefix_calls (s t : List UInt8) (w0 : World) (hs : s.length ≤ 100000) (ht : t.length ≤ 100000) :
 CR PR 47 [str s, str t] w0 fun v w' => v = .bool (decide (t.length ≤ s.length ∧ s.take t.length = t)) ∧ Gr w0 w' none := by
 have hG : Gr w0 w0 none := Gr.refl _ _
 refine CR.of (n := 8) [(0, str s), (1, str t)] Tryz.func47 rfl Tryz.ntmps47 rfl ⟨rfl, rfl, trivial⟩<|qr<|pr 1 rfl<|nsqr<|pr 2 rfl<|eN en61 rfl (hasPrefix0_calls s t _ hs ht) fun v w hv => ?_
 obtain ⟨rfl, hv⟩ := hv
 have hG := hG.trans hv
 exact pr 1 rfl<|nst<|rA rfl rfl ⟨rfl, hG⟩
def Im.index2 (t : List UInt8) (a b : Nat) : Nat → Nat → Option Nat
 | 0, _ => none
 | k + 1, i => if i + 1 < t.length then (if byteAt t i = a ∧ byteAt t (i + 1) = b then some i else Im.index2 t a b k (i + 1)) else none
theorem take2_eq {t : List UInt8} {i : Nat} (h : i + 1 < t.length) (x y : UInt8) : ((t.drop i).take (i + 2 - i) = [x, y]) ↔ (byteAt t i = x.toNat ∧ byteAt t (i + 1) = y.toNat) := by
 have e : (t.drop i).take (i + 2 - i) = [t[i], t[i + 1]] := by
  rw [show i + 2 - i = 2 from by omega, List.drop_eq_getElem_cons om, List.drop_eq_getElem_cons h]; rfl
 rw [e]
 simp only [List.cons.injEq, and_true, byteAt, List.getD_eq_getElem?_getD, List.getElem?_eq_getElem (show i < t.length by omega), List.getElem?_eq_getElem h, Option.getD_some]
 constructor
 ·rintro ⟨rfl, rfl⟩; exact ⟨rfl, rfl⟩
 rintro ⟨h1, h2⟩; exact ⟨UInt8.toNat_inj.1 h1, UInt8.toNat_inj.1 h2⟩
theorem zzIndex_calls (t : List UInt8) (x y : UInt8) (w0 : World) (hs : t.length ≤ 100000) :
 CR PR 48 [str t, str [x, y]] w0 fun v w' => v = .int .i64 (match Im.index2 t x.toNat y.toNat t.length 0 with | some k => (k : Int) | none => -1) ∧ Gr w0 w' none := by
 have hG : Gr w0 w0 none := Gr.refl _ _
 refine CR.of (n := 25) [(0, str t), (1, str [x, y])] Tryz.func48 rfl Tryz.ntmps48 rfl ⟨rfl, rfl, trivial⟩<|qr<|pr 1 rfl<|nsq<|qr<|pr 1 rfl<|ns<|rO<|sB [(0, str t), (1, str [x, y]), (5, .int .i64 ((0 : Nat) : Int))] rfl<|C.loop (fun m l w' => ∃ i : Nat, l = [(0, str t), (1, str [x, y]), (5, .int .i64 (i : Int))] ∧ Gr w0 w' none ∧ Im.index2 t x.toNat y.toNat m i = Im.index2 t x.toNat y.toNat t.length 0 ∧ t.length ≤ i + m ∧ i ≤ t.length) (t.length) (⟨0, rfl, hG, rfl, om, om⟩) ?_
 rintro m l w ⟨i, rfl, hG, hE, hm, hi⟩
 refine qqr<|pr 2 rfl<|qq (R.lenS rfl u9) rfl<|qq (R.addK 2 rfl rfl om) rfl<|pr 1 rfl<|qq (R.lenS rfl u9) rfl<|qq (R.leI rfl rfl) rfl<|ns<|cD rfl (fun h1 => ?_) fun h1 => ?_
 ·refine ksq<|rO<|qr<|pr 4 rfl<|qq (R.lenS rfl u9) rfl<|qq (R.addK 2 rfl rfl om) rfl<|qq (R.sliceS rfl rfl rfl rfl rfl om om u9) rfl<|pr 1 rfl<|qq (R.eqS rfl rfl) rfl<|ns<|cD rfl (fun h2 => ?_) fun h2 => ?_
  ·refine qr<|pr 2 rfl<|nst<|rC<|rH<|rH<|rC<|rH ?_
   obtain ⟨m, rfl⟩ := sU m
   rw [Im.index2, if_pos om, if_pos ((take2_eq om _ _).1 aM)] at hE
   refine rA rfl rfl ⟨?_, hG⟩
   rw [← hE]
  refine rK<|bS<|rR<|pr 1 rfl<|aK rfl rfl<|pr 1 rfl<|rN ?_
  obtain ⟨m, rfl⟩ := sU m
  rw [Im.index2, if_pos om, if_neg (by rw [← take2_eq om]; assumption)] at hE
  exact cT [(0, str t), (1, str [x, y]), (5, .int .i64 ((i + 1 : Nat) : Int))] rfl ⟨m, om, i + 1, rfl, hG, hE, om, om⟩
 refine rE<|rX<|rX<|rY<|sqr<|pr 1 rfl<|nst ?_
 have hE2 : Im.index2 t x.toNat y.toNat m i = none := by
  cases m with
  | zero => rfl
  | succ m => rw [Im.index2, if_neg om]
 rw [hE2] at hE
 refine rA rfl rfl ⟨?_, hG⟩
 rw [← hE]
theorem zzLower_calls (s : List UInt8) (w0 : World) (hs0 : s.length ≤ 100000) :
 CR PR 68 [str s] w0 fun v w' => v = str (Sp.lower s) ∧ Gr w0 w' none := by
 have hG : Gr w0 w0 none := Gr.refl _ _
 refine CR.of (n := 30) [(0, str s)] Tryz.func68 rfl Tryz.ntmps68 rfl ⟨rfl, trivial⟩<|qr<|pr 1 rfl<|nsqr<|pr 1 rfl<|W.toBytes rfl u9 u83 u5 rfl rfl fun w b cap hbz hB hv => ?_
 have hG := hG.trans (hv.no _)
 refine pr 1 rfl<|nsq<|qr<|pr 1 rfl<|qq (R.lenL rfl slq83) rfl<|pr 1 rfl<|ns<|rO<|sB [(3, .slice (some ⟨b, 0, none⟩) s.length cap), (8, .slice (some ⟨b, 0, none⟩) s.length cap), (9, .int .i64 (s.length : Int)), (10, .int .i64 ((0 : Nat) : Int))] rfl<|C.loop (fun m l w' => ∃ i : Nat, l = [(3, .slice (some ⟨b, 0, none⟩) s.length cap), (8, .slice (some ⟨b, 0, none⟩) s.length cap), (9, .int .i64 (s.length : Int)), (10, .int .i64 (i : Int))] ∧ BB w' b (Sp.lowerAt s i) ∧ Gr w0 w' none ∧ i ≤ s.length ∧ s.length = i + m) (s.length) (⟨0, rfl, by simpa [Sp.lowerAt] using hB, hG, om, om⟩) ?_
 rintro m l w ⟨i, rfl, hB, hG, hi, hm⟩
 have hlen := Sp.lowerAt_length s i
 refine qr<|qq (R.ltI rfl rfl) rfl<|nsq<|cD rfl (fun h1 => ?_) fun h1 => ?_
 ·refine ksq<|rO<|qr<|pr 1 rfl<|qq (R.idxB rfl rfl _ rfl (by first | omega | (simp; omega)) sl83) rfl<|qq (R.loadB sc5 rfl hB (by first | omega | (simp; omega))) rfl<|pr 2 rfl<|nsqr<|pr 1 rfl<|W.split (R.leI rfl rfl) rfl rfl rfl (fun h2 => ?_) (fun h2 => ?_)
  ·refine pr 2 rfl<|gg (R.leI rfl rfl) rfl<|pr 1 rfl<|ns<|cD rfl (fun h3 => ?_) fun h3 => ?_
   ·refine rR<|pr 3 rfl<|qq (R.addB 97 rfl rfl om) rfl<|qq (R.subTo ((byteAt (Sp.lowerAt s i) i + 32 : Nat) : Int) rfl rfl (by rw [show ((byteAt (Sp.lowerAt s i) i + 97 : Nat) : Int) - 65 = ((byteAt (Sp.lowerAt s i) i + 32 : Nat) : Int) from by omega]; exact wrap_u8 om)) rfl<|qq (R.idxB rfl rfl _ rfl (by first | omega | (simp; omega)) sl83) rfl<|W.storeB rfl rfl om sc5 hB (by first | omega | (simp; omega)) fun w hB hs => ?_
    have hG := hG.fresh hs om
    refine nbs<|rR<|aK rfl rfl<|pr 1 rfl<|rN ?_
    obtain ⟨m, rfl⟩ := sU m
    have hB2 : BB w b (Sp.lowerAt s (i + 1)) := by rw [← Sp.lowerAt_yes s i om (by rw [← Sp.lowerAt_byte s i om]; omega) (by rw [← Sp.lowerAt_byte s i om]; omega), ← Sp.lowerAt_byte s i om]; exact hB
    exact cT [(3, .slice (some ⟨b, 0, none⟩) s.length cap), (8, .slice (some ⟨b, 0, none⟩) s.length cap), (9, .int .i64 (s.length : Int)), (10, .int .i64 ((i + 1 : Nat) : Int))] rfl ⟨m, om, i + 1, rfl, hB2, hG, om, om⟩
   refine rK<|bS<|rR<|aK rfl rfl<|pr 1 rfl<|rN ?_
   obtain ⟨m, rfl⟩ := sU m
   have hB2 : BB w b (Sp.lowerAt s (i + 1)) := by rw [Sp.lowerAt_no s i om (by rw [← Sp.lowerAt_byte s i om]; omega)]; exact hB
   exact cT [(3, .slice (some ⟨b, 0, none⟩) s.length cap), (8, .slice (some ⟨b, 0, none⟩) s.length cap), (9, .int .i64 (s.length : Int)), (10, .int .i64 ((i + 1 : Nat) : Int))] rfl ⟨m, om, i + 1, rfl, hB2, hG, om, om⟩
  refine pr 4 rfl<|ns<|cF rfl<|rK<|bS<|rR<|aK rfl rfl<|pr 1 rfl<|rN ?_
  obtain ⟨m, rfl⟩ := sU m
  have hB2 : BB w b (Sp.lowerAt s (i + 1)) := by rw [Sp.lowerAt_no s i om (by rw [← Sp.lowerAt_byte s i om]; omega)]; exact hB
  exact cT [(3, .slice (some ⟨b, 0, none⟩) s.length cap), (8, .slice (some ⟨b, 0, none⟩) s.length cap), (9, .int .i64 (s.length : Int)), (10, .int .i64 ((i + 1 : Nat) : Int))] rfl ⟨m, om, i + 1, rfl, hB2, hG, om, om⟩
 refine rE<|rX<|rX<|rY<|sqr<|pr 1 rfl<|qq (R.ofBytes rfl u83 u5 u9 hB (by first | omega | (simp; omega))) rfl<|pr 1 rfl<|nst<|rA rfl rfl ⟨?_, hG⟩
 rw [Sp.lowerAt_end s i om]
theorem lowerASCII_calls (s : List UInt8) (w0 : World) (hs0 : s.length ≤ 100000) :
 CR PR 63 [str s] w0 fun v w' => v = str (Sp.lower s) ∧ Gr w0 w' none := by
 have hG : Gr w0 w0 none := Gr.refl _ _
 refine CR.of (n := 41) [(0, str s)] Tryz.func63 rfl Tryz.ntmps63 rfl ⟨rfl, trivial⟩<|qr<|pr 1 rfl<|nsqr<|pr 1 rfl<|nsq<|qr<|pr 1 rfl<|ns<|rO<|sB [(0, str s), (3, .slice none 0 0), (4, .int .i64 ((0 : Nat) : Int))] rfl<|C.loop (fun m l w' => ∃ (i : Nat) (bv : Value), l = [(0, str s), (3, bv), (4, .int .i64 (i : Int))] ∧ (bv = .slice none 0 0 ∧ Sp.lowerAt s i = s ∨ ∃ b cap, bv = .slice (some ⟨b, 0, none⟩) s.length cap ∧ w0.heap.size ≤ b ∧ BB w' b (Sp.lowerAt s i)) ∧ Gr w0 w' none ∧ i ≤ s.length ∧ s.length = i + m) (s.length) (⟨0, _, rfl, .inl ⟨rfl, by simp [Sp.lowerAt]⟩, hG, om, om⟩) ?_
 rintro m l w ⟨i, bv, rfl, hbv, hG, hi, hm⟩
 refine qqr<|pr 2 rfl<|qq (R.lenS rfl u9) rfl<|qq (R.ltI rfl rfl) rfl<|ns<|cD rfl (fun h1 => ?_) fun h1 => ?_
 ·refine ksq<|rO<|qr<|pr 2 rfl<|qq (R.idxS rfl rfl _ rfl om u9) rfl<|pr 1 rfl<|nsqr<|pr 1 rfl<|W.split (R.leI rfl rfl) rfl rfl rfl (fun h2 => ?_) (fun h2 => ?_)
  ·refine pr 2 rfl<|gg (R.leI rfl rfl) rfl<|pr 1 rfl<|ns<|cD rfl (fun h3 => ?_) fun h3 => ?_
   ·refine rQ<|rQ ?_
    rcases hbv with ⟨rfl, hno⟩ | ⟨b, cap, rfl, hbz, hB⟩
    ·refine rR<|pr 1 rfl<|qq (R.slNilT slq83 rfl) rfl<|ns<|cV rfl<|qr<|pr 1 rfl<|qq (R.lenS rfl u9) rfl<|W.makeB rfl u83 i5z rfl hs0 rfl fun w b hbz0 hM hv => ?_
     have hbz : w0.heap.size ≤ b := by rw [hbz0]; exact hG.size
     have hG := hG.trans hv
     refine pr 1 rfl<|nsr<|pr 2 rfl<|W.copyS u83 i5s rfl rfl hM rfl fun w hB hs => ?_
     have hG := hG.fresh hs hbz
     rw [← hno] at hB
     refine nsr<|pr 4 rfl<|qq (R.idxS rfl rfl _ rfl om u9) rfl<|qq (R.addB 32 rfl rfl om) rfl ?_
     have hlen := Sp.lowerAt_length s i
     refine qq (R.idxB rfl rfl i rfl om sl83) rfl<|W.storeB rfl rfl om sc5 hB (by first | omega | (simp; omega)) fun w hB hs => ?_
     have hG := hG.fresh hs hbz
     refine nbs<|rR<|pr 1 rfl<|aK rfl rfl<|pr 1 rfl<|rN ?_
     obtain ⟨m, rfl⟩ := sU m
     have hB2 : BB w b (Sp.lowerAt s (i + 1)) := by rw [← Sp.lowerAt_yes s i om om om]; exact hB
     exact cT [(0, str s), (3, .slice (some ⟨b, 0, none⟩) s.length s.length), (4, .int .i64 ((i + 1 : Nat) : Int))] rfl ⟨m, om, i + 1, _, rfl, .inr ⟨b, _, rfl, hbz, hB2⟩, hG, om, om⟩
    refine rR<|pr 1 rfl<|qq (R.slNilF slq83 rfl) rfl<|ns<|cF rfl<|ks<|rR<|pr 4 rfl<|qq (R.idxS rfl rfl _ rfl om u9) rfl<|qq (R.addB 32 rfl rfl om) rfl ?_
    have hlen := Sp.lowerAt_length s i
    refine qq (R.idxB rfl rfl i rfl om sl83) rfl<|W.storeB rfl rfl om sc5 hB (by first | omega | (simp; omega)) fun w hB hs => ?_
    have hG := hG.fresh hs hbz
    refine nbs<|rR<|pr 1 rfl<|aK rfl rfl<|pr 1 rfl<|rN ?_
    obtain ⟨m, rfl⟩ := sU m
    have hB2 : BB w b (Sp.lowerAt s (i + 1)) := by rw [← Sp.lowerAt_yes s i om om om]; exact hB
    exact cT [(0, str s), (3, .slice (some ⟨b, 0, none⟩) s.length cap), (4, .int .i64 ((i + 1 : Nat) : Int))] rfl ⟨m, om, i + 1, _, rfl, .inr ⟨b, _, rfl, hbz, hB2⟩, hG, om, om⟩
   refine rK<|bS<|rR<|pr 1 rfl<|aK rfl rfl<|pr 1 rfl<|rN ?_
   obtain ⟨m, rfl⟩ := sU m
   have hno := Sp.lowerAt_no s i om om
   rw [← hno] at hbv
   exact cT [(0, str s), (3, bv), (4, .int .i64 ((i + 1 : Nat) : Int))] rfl ⟨m, om, i + 1, bv, rfl, hbv, hG, om, om⟩
  refine pr 4 rfl<|ns<|cF rfl<|rK<|bS<|rR<|pr 1 rfl<|aK rfl rfl<|pr 1 rfl<|rN ?_
  obtain ⟨m, rfl⟩ := sU m
  have hno := Sp.lowerAt_no s i om om
  rw [← hno] at hbv
  exact cT [(0, str s), (3, bv), (4, .int .i64 ((i + 1 : Nat) : Int))] rfl ⟨m, om, i + 1, bv, rfl, hbv, hG, om, om⟩
 refine rE<|rX<|rX<|rY<|sq<|rQ ?_
 rcases hbv with ⟨rfl, hno⟩ | ⟨b, cap, rfl, hbz, hB⟩
 ·refine rR<|pr 1 rfl<|qq (R.slNilT slq83 rfl) rfl<|ns<|cV rfl<|qr<|pr 2 rfl<|nsth<|rA rfl rfl ⟨?_, hG⟩
  rw [Sp.lowerAt_end s i om] at hno
  rw [hno]
 refine rR<|pr 1 rfl<|qq (R.slNilF slq83 rfl) rfl<|ns<|cF rfl<|ksqr<|pr 1 rfl<|qq (R.ofBytes rfl u83 u5 u9 hB (by rw [Sp.lowerAt_length])) rfl<|pr 1 rfl<|nst<|rA rfl rfl ⟨?_, hG⟩
 rw [Sp.lowerAt_end s i om]
end Go.Proofs.YtogfnbkccfkpoaaGreatDoor
