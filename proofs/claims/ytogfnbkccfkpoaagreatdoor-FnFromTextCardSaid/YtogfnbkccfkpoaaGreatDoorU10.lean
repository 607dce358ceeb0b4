/- A part (10) of the proof of the row of laws.FnFromText: lemmas on ImE, ImF, ImG. No condition but what each statement says. -/
import Derived.Test.YtogfnbkccfkpoaaGreatDoorU09
set_option linter.unusedSimpArgs false
set_option linter.unusedVariables false
set_option maxRecDepth 100000
namespace Go.Proofs.YtogfnbkccfkpoaaGreatDoor
open Go Go.RowKit
open Eng
def PTag (p : Nat) (s : List UInt8) (d : Nat) (acc : Bool) (w0 : World) : Option (List UInt8 × Nat) → Value → World → Prop
 | none, v, w' => ∃ x e i, v = .tuple #[.agg [str x].toArray, e] ∧ ErrV e ∧ PD p s i d acc w' ∧ Gr w0 w' (some p)
 | some (t, i), v, w' => v = .tuple #[.agg [str (Sp.lower t)].toArray, .nilIface] ∧ PD p s i d acc w' ∧ Gr w0 w' (some p)
theorem z87 : zeroCellsOf PR 87 = some [str []] := by kernel_rfl
theorem z91 : zeroCellsOf PR 91 = some [str []] := by kernel_rfl
theorem z95 : zeroCellsOf PR 95 = some [str []] := by kernel_rfl
theorem ag87 : aggSize PR 87 = some 1 := by kernel_rfl
theorem ag91 : aggSize PR 91 = some 1 := by kernel_rfl
theorem ag95 : aggSize PR 95 = some 1 := by kernel_rfl
theorem ident_calls (p : Nat) (s : List UInt8) (i d : Nat) (acc : Bool) (w0 : World) (hp : PD p s i d acc w0) (hb : s.length ≤ 1000) (hi : i ≤ s.length) :
 CR PR 62 [pP p] w0 fun v w' => PRes p s d acc w0 str (Im.ident s i) v w' := by
 have hG : Gr w0 w0 (some p) := Gr.refl _ _
 refine CR.of (n := 80) [(0, pP p)] Tryz.func62 rfl Tryz.ntmps62 rfl ⟨rfl, trivial⟩<|qr<|pr 2 rfl<|nsqr<|pr 1 rfl<|ns<|C.cut (fun l w' => ∃ j : Nat, l = [(0, pP p), (4, .int .i64 ((j - i : Nat) : Int))] ∧ PD p s j d acc w' ∧ Gr w0 w' (some p) ∧ Im.dashEnd s (s.length + 1) i = j ∧ i ≤ j ∧ j ≤ s.length) ?_ ?_
 ·refine rO<|sB [(0, pP p), (4, .int .i64 ((0 : Nat) : Int))] rfl<|C.loop (fun m l w' => ∃ j : Nat, l = [(0, pP p), (4, .int .i64 ((j - i : Nat) : Int))] ∧ PD p s j d acc w' ∧ Gr w0 w' (some p) ∧ Im.dashEnd s m j = Im.dashEnd s (s.length + 1) i ∧ s.length < j + m ∧ i ≤ j ∧ j ≤ s.length) (s.length + 1) (⟨i, by rw [Nat.sub_self], hp, hG, rfl, om, om, om⟩) ?_
  rintro m l w ⟨j, rfl, hp, hG, hE, hm, hij, hjl⟩
  refine rQ<|rQ<|dR<|prq 2 rfl<|fQ fo63_0 rfl<|lQ sc9 hp rfl rfl<|qw (fun w hw => R.lenS rfl u9) rfl<|prq 2 rfl<|fQ fo63_1 rfl<|lQ sc3 hp rfl rfl<|Wq.split (fun w hw => R.gtI rfl rfl) rfl rfl rfl (fun h1 => ?_) (fun h1 => ?_)
  ·try norm_cast at h1
   refine prq 3 rfl<|gw (fun w hw => R.fieldAddr fo63_0 rfl) rfl<|gw (fun w hw => R.load sc9 rfl (hp.grN hw) rfl) rfl<|prq 2 rfl<|gw (fun w hw => R.fieldAddr fo63_1 rfl) rfl<|gw (fun w hw => R.load sc3 rfl (hp.grN hw) rfl) rfl<|gw (fun w hw => R.idxS rfl rfl _ rfl om u9) rfl<|gw (fun w hw => R.eqI rfl rfl) rfl<|prq 1 rfl<|Wq.nil fun w hw => ?_
   have hp := hp.grN hw
   have hG := hG.trans (hw.no _)
   refine rS<|cD rfl (fun h2 => ?_) fun h2 => ?_
   ·try norm_cast at h2
    refine ks<|rO<|qr<|pr 2 rfl<|fA fo63_1 rfl<|lD sc3 hp rfl rfl<|aK rfl rfl<|pr 1 rfl<|fA fo63_1 rfl<|sT sc3 hp rfl fun w hp hs => ?_
    have hp : Blk _ p 63 [str s, .int .i64 ((j + 1 : Nat) : Int), .int .i64 ((d : Nat) : Int), .bool acc] := hp
    have hG := hG.trans hs
    refine nsr<|pr 1 rfl<|qq (R.addTo ((j + 1 - i : Nat) : Int) rfl rfl (by rw [show ((j - i : Nat) : Int) + 1 = ((j + 1 - i : Nat) : Int) from by omega]; exact wrap_nat om)) rfl<|pr 1 rfl<|nB ?_
    obtain ⟨m, rfl⟩ := sU m
    rw [Im.dashEnd, if_pos om] at hE
    exact cT [(0, pP p), (4, .int .i64 ((j + 1 - i : Nat) : Int))] rfl ⟨m, om, j + 1, rfl, hp, hG, hE, om, om, om⟩
   try norm_cast at h2
   refine rE<|rX<|rX<|rY ?_
   have hD : Im.dashEnd s (s.length + 1) i = j := by
    rw [← hE]
    cases m with
    | zero => rfl
    | succ m => rw [Im.dashEnd, if_neg om]
   exact cT [(0, pP p), (4, .int .i64 ((j - i : Nat) : Int))] rfl ⟨j, rfl, hp, hG, hD, om, om⟩
  try norm_cast at h1
  refine prq 12 rfl<|Wq.nil fun w hw => ?_
  have hp := hp.grN hw
  have hG := hG.trans (hw.no _)
  refine rS<|cF rfl<|rE<|rX<|rX<|rY ?_
  have hD : Im.dashEnd s (s.length + 1) i = j := by
   rw [← hE]
   cases m with
   | zero => rfl
   | succ m => rw [Im.dashEnd, if_neg om]
  exact cT [(0, pP p), (4, .int .i64 ((j - i : Nat) : Int))] rfl ⟨j, rfl, hp, hG, hD, om, om⟩
 rintro l w ⟨j, rfl, hp, hG, hD, hij, hjl⟩
 refine rQ<|rQ<|dR<|prq 2 rfl<|fQ fo63_0 rfl<|lQ sc9 hp rfl rfl<|qw (fun w hw => R.lenS rfl u9) rfl<|prq 2 rfl<|fQ fo63_1 rfl<|lQ sc3 hp rfl rfl<|qw (fun w hw => R.leI rfl rfl) rfl<|Wq.nil fun w hw => ?_
 have hp := hp.grN hw
 have hG := hG.trans (hw.no _)
 refine rS<|cD rfl (fun h3 => ?_) fun h3 => ?_
 ·try norm_cast at h3
  refine qr<|eN en21 rfl (errNew_calls _ _) fun v w hv => ?_
  obtain ⟨⟨et, eu, rfl⟩, hv⟩ := hv
  have hp := hp.grN hv
  have hG := hG.trans (hv.no _)
  refine pr 2 rfl<|nsth<|At.res2 rfl rfl rfl ?_
  have hN : Im.ident s i = none := by rw [Im.ident, hD, Im.identAt, if_pos om]
  rw [hN]
  exact ⟨_, _, _, rfl, ⟨_, _, rfl⟩, hp, hG⟩
 try norm_cast at h3
 refine ksq<|rQ<|dR<|prq 2 rfl<|fQ fo63_0 rfl<|lQ sc9 hp rfl rfl<|prq 2 rfl<|fQ fo63_1 rfl<|lQ sc3 hp rfl rfl<|qw (fun w hw => R.idxS rfl rfl _ rfl om u9) rfl<|prq 1 rfl<|Wq.nil fun w hw => ?_
 have hp := hp.grN hw
 have hG := hG.trans (hw.no _)
 refine sqr<|pr 1 rfl<|eN en75 rfl (nameStart_calls _ _) fun v w hv => ?_
 obtain ⟨rfl, hv⟩ := hv
 have hp := hp.grN hv
 have hG := hG.trans (hv.no _)
 cases hb3 : Im.nameStart (byteAt s j)
 ·refine pr 2 rfl<|W.gsplit rfl (R.eqI rfl rfl) rfl rfl rfl (fun h5 => ?_) (fun h5 => ?_)
  ·try norm_cast at h5
   refine pr 2 rfl<|ns<|cF rfl<|ksqr<|pr 1 rfl<|eN en64 rfl (imName_calls p s j d acc _ hp hb om) fun v w hv => ?_
   rcases hM6 : Im.name s j with _ | ⟨x6, j6⟩
   ·rw [hM6] at hv
    obtain ⟨rr6, ee6, j6, rfl, ⟨et6, eu6, rfl⟩, hpo, hv⟩ := hv
    clear hp
    have hp := hpo
    clear hpo
    have hG := hG.trans hv
    refine pr 5 rfl<|nsq<|qr<|pr 1 rfl<|W.split (R.gtI rfl rfl) rfl rfl rfl (fun h7 => ?_) (fun h7 => ?_)
    ·try norm_cast at h7
     refine pr 2 rfl<|gg (R.eqNilF ifc44 rfl) rfl<|pr 1 rfl<|ns<|cF rfl<|ks<|rT<|At.res2 rfl rfl rfl ?_
     have hN : Im.ident s i = none := by rw [Im.ident, hD, Im.identAt, if_neg om, if_neg (by simp [*]), hM6]
     rw [hN]
     exact ⟨_, _, _, rfl, ⟨_, _, rfl⟩, hp, hG⟩
    try norm_cast at h7
    refine pr 4 rfl<|ns<|cF rfl<|ks<|rT<|At.res2 rfl rfl rfl ?_
    have hN : Im.ident s i = none := by rw [Im.ident, hD, Im.identAt, if_neg om, if_neg (by simp [*]), hM6]
    rw [hN]
    exact ⟨_, _, _, rfl, ⟨_, _, rfl⟩, hp, hG⟩
   rw [hM6] at hv
   obtain ⟨rfl, hpo, hv⟩ := hv
   clear hp
   have hp := hpo
   clear hpo
   have hG := hG.trans hv
   obtain ⟨hea6, heb6, hec6⟩ := Im.name_le om hM6
   refine pr 5 rfl<|nsq<|qr<|pr 1 rfl<|W.split (R.gtI rfl rfl) rfl rfl rfl (fun h8 => ?_) (fun h8 => ?_)
   ·try norm_cast at h8
    refine pr 2 rfl<|gg (R.eqNilT ifc44 rfl) rfl<|pr 1 rfl<|ns<|cV rfl<|rR<|pr 1 rfl<|eN en76 rfl (repeat_calls (j - i) _ om) fun v w hv => ?_
    obtain ⟨rfl, hv⟩ := hv
    have hp := hp.grN hv
    have hG := hG.trans (hv.no _)
    refine pr 1 rfl<|qq (R.addS rfl rfl (by simp only [List.length_replicate]; omega)) rfl<|pr 1 rfl<|nst<|At.res2 rfl rfl rfl ?_
    have hN : Im.ident s i = some (List.replicate (j - i) 45 ++ x6, j6) := by rw [Im.ident, hD, Im.identAt, if_neg om, if_neg (by simp [*]), hM6]
    rw [hN]
    exact ⟨rfl, hp, hG⟩
   try norm_cast at h8
   refine pr 4 rfl<|ns<|cF rfl<|ks<|rT<|At.res2 rfl rfl rfl ?_
   have hN : Im.ident s i = some (List.replicate (j - i) 45 ++ x6, j6) := by rw [Im.ident, hD, Im.identAt, if_neg om, if_neg (by simp [*]), hM6]
   rw [hN]
   refine ⟨?_, hp, hG⟩
   rw [show j - i = 0 from by omega]; rfl
  try norm_cast at h5
  refine pr 2 rfl<|ns<|cV rfl<|qr<|eN en21 rfl (errNew_calls _ _) fun v w hv => ?_
  obtain ⟨⟨et, eu, rfl⟩, hv⟩ := hv
  have hp := hp.grN hv
  have hG := hG.trans (hv.no _)
  refine pr 2 rfl<|nsth<|At.res2 rfl rfl rfl ?_
  have hN : Im.ident s i = none := by rw [Im.ident, hD, Im.identAt, if_neg om, if_pos (by rw [‹Im.nameStart (byteAt s j) = false›]; simp; omega)]
  rw [hN]
  exact ⟨_, _, _, rfl, ⟨_, _, rfl⟩, hp, hG⟩
 refine pr 5 rfl<|ns<|cF rfl<|ksqr<|pr 1 rfl<|eN en64 rfl (imName_calls p s j d acc _ hp hb om) fun v w hv => ?_
 rcases hM9 : Im.name s j with _ | ⟨x9, j9⟩
 ·rw [hM9] at hv
  obtain ⟨rr9, ee9, j9, rfl, ⟨et9, eu9, rfl⟩, hpo, hv⟩ := hv
  clear hp
  have hp := hpo
  clear hpo
  have hG := hG.trans hv
  refine pr 5 rfl<|nsq<|qr<|pr 1 rfl<|W.split (R.gtI rfl rfl) rfl rfl rfl (fun h10 => ?_) (fun h10 => ?_)
  ·try norm_cast at h10
   refine pr 2 rfl<|gg (R.eqNilF ifc44 rfl) rfl<|pr 1 rfl<|ns<|cF rfl<|ks<|rT<|At.res2 rfl rfl rfl ?_
   have hN : Im.ident s i = none := by rw [Im.ident, hD, Im.identAt, if_neg om, if_neg (by simp [*]), hM9]
   rw [hN]
   exact ⟨_, _, _, rfl, ⟨_, _, rfl⟩, hp, hG⟩
  try norm_cast at h10
  refine pr 4 rfl<|ns<|cF rfl<|ks<|rT<|At.res2 rfl rfl rfl ?_
  have hN : Im.ident s i = none := by rw [Im.ident, hD, Im.identAt, if_neg om, if_neg (by simp [*]), hM9]
  rw [hN]
  exact ⟨_, _, _, rfl, ⟨_, _, rfl⟩, hp, hG⟩
 rw [hM9] at hv
 obtain ⟨rfl, hpo, hv⟩ := hv
 clear hp
 have hp := hpo
 clear hpo
 have hG := hG.trans hv
 obtain ⟨hea9, heb9, hec9⟩ := Im.name_le om hM9
 refine pr 5 rfl<|nsq<|qr<|pr 1 rfl<|W.split (R.gtI rfl rfl) rfl rfl rfl (fun h11 => ?_) (fun h11 => ?_)
 ·try norm_cast at h11
  refine pr 2 rfl<|gg (R.eqNilT ifc44 rfl) rfl<|pr 1 rfl<|ns<|cV rfl<|rR<|pr 1 rfl<|eN en76 rfl (repeat_calls (j - i) _ om) fun v w hv => ?_
  obtain ⟨rfl, hv⟩ := hv
  have hp := hp.grN hv
  have hG := hG.trans (hv.no _)
  refine pr 1 rfl<|qq (R.addS rfl rfl (by simp only [List.length_replicate]; omega)) rfl<|pr 1 rfl<|nst<|At.res2 rfl rfl rfl ?_
  have hN : Im.ident s i = some (List.replicate (j - i) 45 ++ x9, j9) := by rw [Im.ident, hD, Im.identAt, if_neg om, if_neg (by simp [*]), hM9]
  rw [hN]
  exact ⟨rfl, hp, hG⟩
 try norm_cast at h11
 refine pr 4 rfl<|ns<|cF rfl<|ks<|rT<|At.res2 rfl rfl rfl ?_
 have hN : Im.ident s i = some (List.replicate (j - i) 45 ++ x9, j9) := by rw [Im.ident, hD, Im.identAt, if_neg om, if_neg (by simp [*]), hM9]
 rw [hN]
 refine ⟨?_, hp, hG⟩
 rw [show j - i = 0 from by omega]; rfl
theorem typeSel_calls (p : Nat) (s : List UInt8) (i d : Nat) (acc : Bool) (w0 : World) (hp : PD p s i d acc w0) (hb : s.length ≤ 1000) (hi : i ≤ s.length) :
 CR PR 49 [pP p] w0 fun v w' => PTag p s d acc w0 (Im.ident s i) v w' := by
 have hG : Gr w0 w0 (some p) := Gr.refl _ _
 refine CR.of (n := 15) [(0, pP p)] Tryz.func49 rfl Tryz.ntmps49 rfl ⟨rfl, trivial⟩<|qr ?_
 have hpl := hp.lt
 refine W.alloc z87 rfl fun w q hqz hR hv => ?_
 have hp := hp.grN hv
 have hG := hG.trans (hv.no _)
 have hpq : p < q := by omega
 have hqw : w0.heap.size ≤ q := by rw [hqz]; exact Nat.le_refl _
 refine pr 1 rfl<|nsqr<|pr 1 rfl<|eN en62 rfl (ident_calls p s i d acc _ hp hb om) fun v w hv => ?_
 rcases hM1 : Im.ident s i with _ | ⟨x1, j1⟩
 ·rw [hM1] at hv
  obtain ⟨rr1, ee1, j1, rfl, ⟨et1, eu1, rfl⟩, hpo, hv⟩ := hv
  clear hp
  have hp := hpo
  clear hpo
  have hR := hR.gr hv au
  have hG := hG.trans hv
  refine pr 5 rfl<|nsq<|qr<|pr 1 rfl<|qq (R.neNilT ifc44 rfl) rfl<|ns<|cV rfl<|rT<|rH<|At.resCell2 rfl rfl (loadVar_agg ag87 hR rfl) rfl ?_
  try rw [hM1]
  exact ⟨_, _, _, rfl, ⟨_, _, rfl⟩, hp, hG⟩
 rw [hM1] at hv
 obtain ⟨rfl, hpo, hv⟩ := hv
 clear hp
 have hp := hpo
 clear hpo
 have hG := hG.trans hv
 obtain ⟨hea1, heb1, hec1⟩ := Im.ident_le hM1
 have hR := hR.gr hv au
 refine pr 5 rfl<|nsq<|qr<|pr 1 rfl<|qq (R.neNilF ifc44 rfl) rfl<|ns<|cF rfl<|ksqr<|pr 1 rfl<|eN en63 rfl (lowerASCII_calls _ _ om) fun v w hv => ?_
 obtain ⟨rfl, hv⟩ := hv
 have hp := hp.grN hv
 have hG := hG.trans (hv.no _)
 have hR := hR.gr hv au
 refine qq (R.build (vs := [str (Sp.lower x1)]) (ps := [(0, str (Sp.lower x1))]) (fun a ha => by simp [ha.ev (x := .tmp 13) rfl]) kR) rfl<|W.storeAll ag87 rfl rfl hR rfl rfl (by intro v hv; simp only [List.mem_cons, List.not_mem_nil, or_false] at hv; subst hv; rfl) fun w hR hs => ?_
 have hp := hp.gr hs sM
 have hG := hG.fresh hs hqw
 refine pr 1 rfl<|nst<|At.resCell2 rfl rfl (loadVar_agg ag87 hR rfl) rfl ?_
 try rw [hM1]
 exact ⟨rfl, hp, hG⟩
theorem idSel_calls (p : Nat) (s : List UInt8) (i d : Nat) (acc : Bool) (w0 : World) (hp : PD p s i d acc w0) (hb : s.length ≤ 1000) (hi : i ≤ s.length) (hlt : i < s.length) (hby : byteAt s i = 35) :
 CR PR 50 [pP p] w0 fun v w' => PRes p s d acc w0 (fun t => .agg [str t].toArray) (Im.name s (i + 1)) v w' := by
 have hG : Gr w0 w0 (some p) := Gr.refl _ _
 refine CR.of (n := 48) [(0, pP p)] Tryz.func50 rfl Tryz.ntmps50 rfl ⟨rfl, trivial⟩<|qr ?_
 have hpl := hp.lt
 refine W.alloc z91 rfl fun w q hqz hR hv => ?_
 have hp := hp.grN hv
 have hG := hG.trans (hv.no _)
 have hpq : p < q := by omega
 have hqw : w0.heap.size ≤ q := by rw [hqz]; exact Nat.le_refl _
 refine pr 1 rfl<|nsq<|rQ<|dR<|prq 2 rfl<|fQ fo63_1 rfl<|lQ sc3 hp rfl rfl<|prq 2 rfl<|fQ fo63_0 rfl<|lQ sc9 hp rfl rfl<|qw (fun w hw => R.lenS rfl u9) rfl<|qw (fun w hw => R.geI rfl rfl) rfl<|Wq.nil fun w hw => ?_
 have hp := hp.grN hw
 have hR := hR.grN hw
 have hG := hG.trans (hw.no _)
 refine rS<|cD rfl (fun h1 => ?_) fun h1 => ?_
 ·all_goals (exfalso; omega)
 refine ksq<|rQ<|dR<|prq 2 rfl<|fQ fo63_0 rfl<|lQ sc9 hp rfl rfl<|prq 2 rfl<|fQ fo63_1 rfl<|lQ sc3 hp rfl rfl<|qw (fun w hw => R.idxS rfl rfl _ rfl om u9) rfl<|qw (fun w hw => R.neI rfl rfl) rfl<|Wq.nil fun w hw => ?_
 have hp := hp.grN hw
 have hR := hR.grN hw
 have hG := hG.trans (hw.no _)
 refine rS<|cD rfl (fun h2 => ?_) fun h2 => ?_
 ·all_goals (exfalso; omega)
 refine ksqr<|pr 2 rfl<|fA fo63_1 rfl<|lD sc3 hp rfl rfl<|aK rfl rfl<|pr 1 rfl<|fA fo63_1 rfl<|sT sc3 hp rfl fun w hp hs => ?_
 have hR := hR.gr hs au
 have hp : Blk _ p 63 [str s, .int .i64 ((i + 1 : Nat) : Int), .int .i64 ((d : Nat) : Int), .bool acc] := hp
 have hG := hG.trans hs
 refine nsqr<|pr 1 rfl<|eN en64 rfl (imName_calls p s (i + 1) d acc _ hp hb om) fun v w hv => ?_
 rcases hM3 : Im.name s (i + 1) with _ | ⟨x3, j3⟩
 ·rw [hM3] at hv
  obtain ⟨rr3, ee3, j3, rfl, ⟨et3, eu3, rfl⟩, hpo, hv⟩ := hv
  clear hp
  have hp := hpo
  clear hpo
  have hR := hR.gr hv au
  have hG := hG.trans hv
  refine pr 5 rfl<|nsq<|qr<|pr 1 rfl<|qq (R.neNilT ifc44 rfl) rfl<|ns<|cV rfl<|qr<|qq (R.build (vs := [str []]) (ps := []) (fun a ha => by simp) kR) rfl<|pr 1 rfl<|W.storeAll ag91 rfl rfl hR rfl rfl (by intro v hv; simp only [List.mem_cons, List.not_mem_nil, or_false] at hv; subst hv; rfl) fun w hR hs => ?_
  have hp := hp.gr hs sM
  have hG := hG.fresh hs hqw
  refine pr 1 rfl<|nsth<|At.resCell2 rfl rfl (loadVar_agg ag91 hR rfl) rfl ?_
  try rw [hM3]
  exact ⟨_, _, _, rfl, ⟨_, _, rfl⟩, hp, hG⟩
 rw [hM3] at hv
 obtain ⟨rfl, hpo, hv⟩ := hv
 clear hp
 have hp := hpo
 clear hpo
 have hG := hG.trans hv
 obtain ⟨hea3, heb3, hec3⟩ := Im.name_le om hM3
 have hR := hR.gr hv au
 refine pr 5 rfl<|nsq<|qr<|pr 1 rfl<|qq (R.neNilF ifc44 rfl) rfl<|ns<|cF rfl<|ksqr<|pr 1 rfl<|qq (R.build (vs := [str x3]) (ps := [(0, str x3)]) (fun a ha => by simp [ha.ev (x := .tmp 46) rfl]) kR) rfl<|W.storeAll ag91 rfl rfl hR rfl rfl (by intro v hv; simp only [List.mem_cons, List.not_mem_nil, or_false] at hv; subst hv; rfl) fun w hR hs => ?_
 have hp := hp.gr hs sM
 have hG := hG.fresh hs hqw
 refine pr 1 rfl<|nst<|At.resCell2 rfl rfl (loadVar_agg ag91 hR rfl) rfl ?_
 try rw [hM3]
 exact ⟨rfl, hp, hG⟩
theorem classSel_calls (p : Nat) (s : List UInt8) (i d : Nat) (acc : Bool) (w0 : World) (hp : PD p s i d acc w0) (hb : s.length ≤ 1000) (hi : i ≤ s.length) (hlt : i < s.length) (hby : byteAt s i = 46) :
 CR PR 51 [pP p] w0 fun v w' => PRes p s d acc w0 (fun t => .agg [str t].toArray) (Im.ident s (i + 1)) v w' := by
 have hG : Gr w0 w0 (some p) := Gr.refl _ _
 refine CR.of (n := 48) [(0, pP p)] Tryz.func51 rfl Tryz.ntmps51 rfl ⟨rfl, trivial⟩<|qr ?_
 have hpl := hp.lt
 refine W.alloc z95 rfl fun w q hqz hR hv => ?_
 have hp := hp.grN hv
 have hG := hG.trans (hv.no _)
 have hpq : p < q := by omega
 have hqw : w0.heap.size ≤ q := by rw [hqz]; exact Nat.le_refl _
 refine pr 1 rfl<|nsq<|rQ<|dR<|prq 2 rfl<|fQ fo63_1 rfl<|lQ sc3 hp rfl rfl<|prq 2 rfl<|fQ fo63_0 rfl<|lQ sc9 hp rfl rfl<|qw (fun w hw => R.lenS rfl u9) rfl<|qw (fun w hw => R.geI rfl rfl) rfl<|Wq.nil fun w hw => ?_
 have hp := hp.grN hw
 have hR := hR.grN hw
 have hG := hG.trans (hw.no _)
 refine rS<|cD rfl (fun h1 => ?_) fun h1 => ?_
 ·all_goals (exfalso; omega)
 refine ksq<|rQ<|dR<|prq 2 rfl<|fQ fo63_0 rfl<|lQ sc9 hp rfl rfl<|prq 2 rfl<|fQ fo63_1 rfl<|lQ sc3 hp rfl rfl<|qw (fun w hw => R.idxS rfl rfl _ rfl om u9) rfl<|qw (fun w hw => R.neI rfl rfl) rfl<|Wq.nil fun w hw => ?_
 have hp := hp.grN hw
 have hR := hR.grN hw
 have hG := hG.trans (hw.no _)
 refine rS<|cD rfl (fun h2 => ?_) fun h2 => ?_
 ·all_goals (exfalso; omega)
 refine ksqr<|pr 2 rfl<|fA fo63_1 rfl<|lD sc3 hp rfl rfl<|aK rfl rfl<|pr 1 rfl<|fA fo63_1 rfl<|sT sc3 hp rfl fun w hp hs => ?_
 have hR := hR.gr hs au
 have hp : Blk _ p 63 [str s, .int .i64 ((i + 1 : Nat) : Int), .int .i64 ((d : Nat) : Int), .bool acc] := hp
 have hG := hG.trans hs
 refine nsqr<|pr 1 rfl<|eN en62 rfl (ident_calls p s (i + 1) d acc _ hp hb om) fun v w hv => ?_
 rcases hM3 : Im.ident s (i + 1) with _ | ⟨x3, j3⟩
 ·rw [hM3] at hv
  obtain ⟨rr3, ee3, j3, rfl, ⟨et3, eu3, rfl⟩, hpo, hv⟩ := hv
  clear hp
  have hp := hpo
  clear hpo
  have hR := hR.gr hv au
  have hG := hG.trans hv
  refine pr 5 rfl<|nsq<|qr<|pr 1 rfl<|qq (R.neNilT ifc44 rfl) rfl<|ns<|cV rfl<|qr<|qq (R.build (vs := [str []]) (ps := []) (fun a ha => by simp) kR) rfl<|pr 1 rfl<|W.storeAll ag95 rfl rfl hR rfl rfl (by intro v hv; simp only [List.mem_cons, List.not_mem_nil, or_false] at hv; subst hv; rfl) fun w hR hs => ?_
  have hp := hp.gr hs sM
  have hG := hG.fresh hs hqw
  refine pr 1 rfl<|nsth<|At.resCell2 rfl rfl (loadVar_agg ag95 hR rfl) rfl ?_
  try rw [hM3]
  exact ⟨_, _, _, rfl, ⟨_, _, rfl⟩, hp, hG⟩
 rw [hM3] at hv
 obtain ⟨rfl, hpo, hv⟩ := hv
 clear hp
 have hp := hpo
 clear hpo
 have hG := hG.trans hv
 obtain ⟨hea3, heb3, hec3⟩ := Im.ident_le hM3
 have hR := hR.gr hv au
 refine pr 5 rfl<|nsq<|qr<|pr 1 rfl<|qq (R.neNilF ifc44 rfl) rfl<|ns<|cF rfl<|ksqr<|pr 1 rfl<|qq (R.build (vs := [str x3]) (ps := [(0, str x3)]) (fun a ha => by simp [ha.ev (x := .tmp 46) rfl]) kR) rfl<|W.storeAll ag95 rfl rfl hR rfl rfl (by intro v hv; simp only [List.mem_cons, List.not_mem_nil, or_false] at hv; subst hv; rfl) fun w hR hs => ?_
 have hp := hp.gr hs sM
 have hG := hG.fresh hs hqw
 refine pr 1 rfl<|nst<|At.resCell2 rfl rfl (loadVar_agg ag95 hR rfl) rfl ?_
 try rw [hM3]
 exact ⟨rfl, hp, hG⟩
end Go.Proofs.YtogfnbkccfkpoaaGreatDoor
set_option maxHeartbeats 2000000
namespace Go.Proofs.YtogfnbkccfkpoaaGreatDoor
open Go Go.RowKit
open Eng
theorem z99 : zeroCellsOf PR 99 = some [str [], str [], str [], .bool false] := by kernel_rfl
theorem ag99 : aggSize PR 99 = some 4 := by kernel_rfl
theorem signs_no {op : List UInt8} (h0 : 1 ≤ op.length) (h1 : ¬ op = [61]) (h2 : ¬ op = [33, 61]) (h3 : ¬ op = [126, 61]) (h4 : ¬ op = [124, 61]) (h5 : ¬ op = [94, 61]) (h6 : ¬ op = [36, 61]) : Sp.signs.contains op = decide (op = [42, 61]) := by
 rw [Bool.eq_iff_iff, decide_eq_true_iff]
 have h7 : ¬ op = [] := by intro hq; subst hq; simp at h0
 simp only [Sp.signs, List.contains_cons, List.contains_nil, Bool.or_eq_true, beq_iff_eq, Bool.or_false]
 simp [*]
def IS.attrV : IS → Value
 | .attr k v o i => .agg [str k, str v, str o, .bool i].toArray
 | _ => .nilIface
def Im.attrEnd (s key op val : List UInt8) (ins : Bool) (i : Nat) : Option (IS × Nat) :=
 if s.length ≤ Im.ws s i then none
 else if ¬ byteAt s (Im.ws s i) = 93 then none
 else if Sp.signs.contains op then some (.attr key val op ins, Im.ws s i + 1) else none
theorem attr_calls (p : Nat) (s : List UInt8) (i d : Nat) (acc : Bool) (w0 : World) (hp : PD p s i d acc w0) (hb : s.length ≤ 1000) (hi : i ≤ s.length) (hlt : i < s.length) (hby : byteAt s i = 91) :
 CR PR 52 [pP p] w0 fun v w' => PRes p s d acc w0 IS.attrV (Im.attr s i) v w' := by
 have hG : Gr w0 w0 (some p) := Gr.refl _ _
 refine CR.of (n := 262) [(0, pP p)] Tryz.func52 rfl Tryz.ntmps52 rfl ⟨rfl, trivial⟩<|qr ?_
 have hpl := hp.lt
 refine W.alloc z99 rfl fun w q hqz hR hv => ?_
 have hp := hp.grN hv
 have hG := hG.trans (hv.no _)
 have hpq : p < q := by omega
 have hqw : w0.heap.size ≤ q := by rw [hqz]; exact Nat.le_refl _
 refine pr 1 rfl<|nsq<|rQ<|dR<|prq 2 rfl<|fQ fo63_1 rfl<|lQ sc3 hp rfl rfl<|prq 2 rfl<|fQ fo63_0 rfl<|lQ sc9 hp rfl rfl<|qw (fun w hw => R.lenS rfl u9) rfl<|qw (fun w hw => R.geI rfl rfl) rfl<|Wq.nil fun w hw => ?_
 have hp := hp.grN hw
 have hR := hR.grN hw
 have hG := hG.trans (hw.no _)
 refine rS<|cD rfl (fun h1 => ?_) fun h1 => ?_
 ·all_goals (exfalso; omega)
 refine ksq<|rQ<|dR<|prq 2 rfl<|fQ fo63_0 rfl<|lQ sc9 hp rfl rfl<|prq 2 rfl<|fQ fo63_1 rfl<|lQ sc3 hp rfl rfl<|qw (fun w hw => R.idxS rfl rfl _ rfl om u9) rfl<|qw (fun w hw => R.neI rfl rfl) rfl<|Wq.nil fun w hw => ?_
 have hp := hp.grN hw
 have hR := hR.grN hw
 have hG := hG.trans (hw.no _)
 refine rS<|cD rfl (fun h2 => ?_) fun h2 => ?_
 ·all_goals (exfalso; omega)
 refine ksqr<|pr 2 rfl<|fA fo63_1 rfl<|lD sc3 hp rfl rfl<|aK rfl rfl<|pr 1 rfl<|fA fo63_1 rfl<|sT sc3 hp rfl fun w hp hs => ?_
 have hR := hR.gr hs au
 have hp : Blk _ p 63 [str s, .int .i64 ((i + 1 : Nat) : Int), .int .i64 ((d : Nat) : Int), .bool acc] := hp
 have hG := hG.trans hs
 refine nsqr<|pr 1 rfl<|eN en38 rfl (ws_calls p s (i + 1) d acc _ hp hb om) fun v w hv => ?_
 obtain ⟨hv1, hpo, hv⟩ := hv
 obtain ⟨hwa3, hwb3⟩ := Im.ws_le s (i + 1)
 have hwb3 := hwb3 om
 clear hp
 generalize hj3 : Im.ws s (i + 1) = j3 at hv1 hpo hwa3 hwb3
 have hp := hpo
 clear hpo
 subst hv1
 have hG := hG.trans hv
 have hR := hR.gr hv au
 refine nsqr<|pr 1 rfl<|eN en62 rfl (ident_calls p s j3 d acc _ hp hb om) fun v w hv => ?_
 rcases hM4 : Im.ident s j3 with _ | ⟨x4, j4⟩
 ·rw [hM4] at hv
  obtain ⟨rr4, ee4, j4, rfl, ⟨et4, eu4, rfl⟩, hpo, hv⟩ := hv
  clear hp
  have hp := hpo
  clear hpo
  have hR := hR.gr hv au
  have hG := hG.trans hv
  refine pr 5 rfl<|nsq<|qr<|pr 1 rfl<|qq (R.neNilT ifc44 rfl) rfl<|ns<|cV rfl<|qr<|qq (R.build (vs := [str [], str [], str [], .bool false]) (ps := []) (fun a ha => by simp) kR) rfl<|pr 1 rfl<|W.storeAll ag99 rfl rfl hR rfl (by first | rfl | exact hcs) (by intro v hv; simp only [List.mem_cons, List.not_mem_nil, or_false] at hv; rcases hv with rfl | rfl | rfl | rfl <;> rfl) fun w hR hs => ?_
  have hp := hp.gr hs sM
  have hG := hG.fresh hs hqw
  refine pr 1 rfl<|nsth<|At.resCell2 rfl rfl (loadVar_agg ag99 hR (by first | rfl | exact hcs)) rfl ?_
  have hN : Im.attr s i = none := by
   rw [Im.attr, hj3, hM4]
  rw [hN]
  exact ⟨_, _, _, rfl, ⟨_, _, rfl⟩, hp, hG⟩
 rw [hM4] at hv
 obtain ⟨rfl, hpo, hv⟩ := hv
 clear hp
 have hp := hpo
 clear hpo
 have hG := hG.trans hv
 obtain ⟨hea4, heb4, hec4⟩ := Im.ident_le hM4
 have hR := hR.gr hv au
 refine pr 5 rfl<|nsq<|qr<|pr 1 rfl<|qq (R.neNilF ifc44 rfl) rfl<|ns<|cF rfl<|ksqr<|pr 1 rfl<|eN en63 rfl (lowerASCII_calls _ _ om) fun v w hv => ?_
 obtain ⟨rfl, hv⟩ := hv
 have hp := hp.grN hv
 have hG := hG.trans (hv.no _)
 have hR := hR.gr hv au
 refine pr 1 rfl<|nsqr<|pr 1 rfl<|eN en38 rfl (ws_calls p s j4 d acc _ hp hb om) fun v w hv => ?_
 obtain ⟨hv1, hpo, hv⟩ := hv
 obtain ⟨hwa5, hwb5⟩ := Im.ws_le s j4
 have hwb5 := hwb5 om
 clear hp
 generalize hj5 : Im.ws s j4 = j5 at hv1 hpo hwa5 hwb5
 have hp := hpo
 clear hpo
 subst hv1
 have hG := hG.trans hv
 have hR := hR.gr hv au
 refine nsq<|rQ<|dR<|prq 2 rfl<|fQ fo63_1 rfl<|lQ sc3 hp rfl rfl<|prq 2 rfl<|fQ fo63_0 rfl<|lQ sc9 hp rfl rfl<|qw (fun w hw => R.lenS rfl u9) rfl<|qw (fun w hw => R.geI rfl rfl) rfl<|Wq.nil fun w hw => ?_
 have hp := hp.grN hw
 have hR := hR.grN hw
 have hG := hG.trans (hw.no _)
 refine rS<|cD rfl (fun h6 => ?_) fun h6 => ?_
 ·refine qr<|qq (R.build (vs := [str [], str [], str [], .bool false]) (ps := []) (fun a ha => by simp) kR) rfl<|eN en21 rfl (errNew_calls _ _) fun v w hv => ?_
  obtain ⟨⟨et, eu, rfl⟩, hv⟩ := hv
  have hp := hp.grN hv
  have hG := hG.trans (hv.no _)
  have hR := hR.gr hv au
  refine W.storeAll ag99 rfl rfl hR rfl (by first | rfl | exact hcs) (by intro v hv; simp only [List.mem_cons, List.not_mem_nil, or_false] at hv; rcases hv with rfl | rfl | rfl | rfl <;> rfl) fun w hR hs => ?_
  have hp := hp.gr hs sM
  have hG := hG.fresh hs hqw
  refine pr 1 rfl<|nsth<|At.resCell2 rfl rfl (loadVar_agg ag99 hR (by first | rfl | exact hcs)) rfl ?_
  have hN : Im.attr s i = none := by
   rw [Im.attr, hj3, hM4]
   simp only []
   rw [hj5, if_pos om]
  rw [hN]
  exact ⟨_, _, _, rfl, ⟨_, _, rfl⟩, hp, hG⟩
 refine ksq<|rQ<|dR<|prq 2 rfl<|fQ fo63_0 rfl<|lQ sc9 hp rfl rfl<|prq 2 rfl<|fQ fo63_1 rfl<|lQ sc3 hp rfl rfl<|qw (fun w hw => R.idxS rfl rfl _ rfl om u9) rfl<|qw (fun w hw => R.eqI rfl rfl) rfl<|Wq.nil fun w hw => ?_
 have hp := hp.grN hw
 have hR := hR.grN hw
 have hG := hG.trans (hw.no _)
 refine rS<|cD rfl (fun h7 => ?_) fun h7 => ?_
 ·refine qr<|pr 2 rfl<|fA fo63_1 rfl<|lD sc3 hp rfl rfl<|aK rfl rfl<|pr 1 rfl<|fA fo63_1 rfl<|sT sc3 hp rfl fun w hp hs => ?_
  have hR := hR.gr hs au
  have hp : Blk _ p 63 [str s, .int .i64 ((j5 + 1 : Nat) : Int), .int .i64 ((d : Nat) : Int), .bool acc] := hp
  have hG := hG.trans hs
  refine nsqr<|pr 1 rfl<|qq (R.build (vs := [str (Sp.lower x4), str [], str [ ], .bool false]) (ps := [(0, str (Sp.lower x4)), (2, str [ ])]) (fun a ha => by simp [ha.ev (x := .tmp 84) rfl]; rfl) kR) rfl<|W.storeAll ag99 rfl rfl hR rfl (by first | rfl | exact hcs) (by intro v hv; simp only [List.mem_cons, List.not_mem_nil, or_false] at hv; rcases hv with rfl | rfl | rfl | rfl <;> rfl) fun w hR hs => ?_
  have hp := hp.gr hs sM
  have hG := hG.fresh hs hqw
  refine pr 1 rfl<|nsth<|At.resCell2 rfl rfl (loadVar_agg ag99 hR (by first | rfl | exact hcs)) rfl ?_
  have hN : Im.attr s i = some (.attr (Sp.lower x4) [] [] false, j5 + 1) := by
   rw [Im.attr, hj3, hM4]
   simp only []
   rw [hj5, if_neg om, if_pos om]
  rw [hN]
  exact ⟨rfl, hp, hG⟩
 refine ksq<|rQ<|dR<|prq 2 rfl<|fQ fo63_1 rfl<|lQ sc3 hp rfl rfl<|qw (fun w hw => R.addK 2 rfl rfl om) rfl<|prq 2 rfl<|fQ fo63_0 rfl<|lQ sc9 hp rfl rfl<|qw (fun w hw => R.lenS rfl u9) rfl<|qw (fun w hw => R.geI rfl rfl) rfl<|Wq.nil fun w hw => ?_
 have hp := hp.grN hw
 have hR := hR.grN hw
 have hG := hG.trans (hw.no _)
 refine rS<|cD rfl (fun h8 => ?_) fun h8 => ?_
 ·refine qr<|qq (R.build (vs := [str [], str [], str [], .bool false]) (ps := []) (fun a ha => by simp) kR) rfl<|eN en21 rfl (errNew_calls _ _) fun v w hv => ?_
  obtain ⟨⟨et, eu, rfl⟩, hv⟩ := hv
  have hp := hp.grN hv
  have hG := hG.trans (hv.no _)
  have hR := hR.gr hv au
  refine W.storeAll ag99 rfl rfl hR rfl (by first | rfl | exact hcs) (by intro v hv; simp only [List.mem_cons, List.not_mem_nil, or_false] at hv; rcases hv with rfl | rfl | rfl | rfl <;> rfl) fun w hR hs => ?_
  have hp := hp.gr hs sM
  have hG := hG.fresh hs hqw
  refine pr 1 rfl<|nsth<|At.resCell2 rfl rfl (loadVar_agg ag99 hR (by first | rfl | exact hcs)) rfl ?_
  have hN : Im.attr s i = none := by
   rw [Im.attr, hj3, hM4]
   simp only []
   rw [hj5, if_neg om, if_neg om, if_pos om]
  rw [hN]
  exact ⟨_, _, _, rfl, ⟨_, _, rfl⟩, hp, hG⟩
 refine ksq<|dR<|prq 2 rfl<|fQ fo63_0 rfl<|lQ sc9 hp rfl rfl<|prq 2 rfl<|fQ fo63_1 rfl<|lQ sc3 hp rfl rfl<|prq 2 rfl<|fQ fo63_1 rfl<|lQ sc3 hp rfl rfl<|qw (fun w hw => R.addK 2 rfl rfl om) rfl<|qw (fun w hw => R.sliceS rfl rfl rfl rfl rfl om om u9) rfl<|prq 1 rfl<|Wq.nil fun w hw => ?_
 have hp := hp.grN hw
 have hR := hR.grN hw
 have hG := hG.trans (hw.no _)
 refine rS<|C.cut (fun l w' => ∃ (q : Nat) (j : Nat) (key op : List UInt8) (cs : List Value), l = [(0, pP p), (2, pP q), (4, str key), (6, str op)] ∧ PD p s j d acc w' ∧ Gr w0 w' (some p) ∧ Blk w' q 99 cs ∧ cs.length = 4 ∧ p < q ∧ w0.heap.size ≤ q ∧ Im.attr s i = Im.attrVal s key op (j + op.length) ∧ j + op.length ≤ s.length ∧ op.length ≤ 2 ∧ 1 ≤ op.length) ?_ ?_
 ·refine rQ ?_
  have ho0 : byteAt ((s.drop j5).take (j5 + 2 - j5)) 0 = byteAt s j5 := by rw [byteAt_take _ _ _ om, byteAt_drop]; rfl
  have ho1 : byteAt ((s.drop j5).take (j5 + 2 - j5)) 1 = byteAt s (j5 + 1) := by rw [byteAt_take _ _ _ om, byteAt_drop]
  have hol : ((s.drop j5).take (j5 + 2 - j5)).length = 2 := by simp only [List.length_take, List.length_drop]; omega
  refine rR<|pr 1 rfl<|qq (R.idxS rfl rfl 0 rfl om u9) rfl<|qq (R.eqI rfl rfl) rfl<|ns<|cD rfl (fun h9 => ?_) fun h9 => ?_
  ·refine rR<|pr 1 rfl<|rN ?_
   have hA : Im.attr s i = Im.attrVal s (Sp.lower x4) ([61]) (j5 + ([61]).length) := by
    rw [Im.attr, hj3, hM4]
    simp only []
    rw [hj5, if_neg om, if_neg om, if_neg om, if_pos om]
    rfl
   exact cT [(0, pP p), (2, pP q), (4, str (Sp.lower x4)), (6, str ([61]))] rfl ⟨q, j5, _, _, _, rfl, hp, hG, hR, rfl, hpq, hqw, hA, by simp only [List.length_cons, List.length_nil]; omega, by simp only [List.length_cons, List.length_nil]; omega, by simp only [List.length_cons, List.length_nil]; omega⟩
  refine qr<|pr 1 rfl<|qq (R.idxS rfl rfl 1 rfl om u9) rfl<|qq (R.neI rfl rfl) rfl<|ns<|cD rfl (fun h10 => ?_) fun h10 => ?_
  ·refine qr<|qq (R.build (vs := [str [], str [], str [], .bool false]) (ps := []) (fun a ha => by simp) kR) rfl<|eN en21 rfl (errNew_calls _ _) fun v w hv => ?_
   obtain ⟨⟨et, eu, rfl⟩, hv⟩ := hv
   have hp := hp.grN hv
   have hG := hG.trans (hv.no _)
   have hR := hR.gr hv au
   refine W.storeAll ag99 rfl rfl hR rfl (by first | rfl | exact hcs) (by intro v hv; simp only [List.mem_cons, List.not_mem_nil, or_false] at hv; rcases hv with rfl | rfl | rfl | rfl <;> rfl) fun w hR hs => ?_
   have hp := hp.gr hs sM
   have hG := hG.fresh hs hqw
   refine pr 1 rfl<|nsth<|At.resCell2 rfl rfl (loadVar_agg ag99 hR (by first | rfl | exact hcs)) rfl ?_
   have hN : Im.attr s i = none := by
    rw [Im.attr, hj3, hM4]
    simp only []
    rw [hj5, if_neg om, if_neg om, if_neg om, if_neg om, if_pos om]
   rw [hN]
   exact ⟨_, _, _, rfl, ⟨_, _, rfl⟩, hp, hG⟩
  refine rK ?_
  have hA : Im.attr s i = Im.attrVal s (Sp.lower x4) ((s.drop j5).take (j5 + 2 - j5)) (j5 + ((s.drop j5).take (j5 + 2 - j5)).length) := by
   rw [Im.attr, hj3, hM4]
   simp only []
   rw [hj5, if_neg om, if_neg om, if_neg om, if_neg om, if_neg om]
   rw [show j5 + 2 - j5 = 2 from by omega, show ((s.drop j5).take 2).length = 2 from by simp only [List.length_take, List.length_drop]; omega]
  exact cT [(0, pP p), (2, pP q), (4, str (Sp.lower x4)), (6, str ((s.drop j5).take (j5 + 2 - j5)))] rfl ⟨q, j5, _, _, _, rfl, hp, hG, hR, rfl, hpq, hqw, hA, by simp only [List.length_take, List.length_drop]; omega, by simp only [List.length_take, List.length_drop]; omega, by simp only [List.length_take, List.length_drop]; omega⟩
 rintro l w ⟨q, j, key, op, cs, rfl, hp, hG, hR, hcs, hpq, hqw, hA, hjl, hol, hop⟩
 refine qr<|pr 2 rfl<|fA fo63_1 rfl<|lD sc3 hp rfl rfl<|pr 1 rfl<|qq (R.lenS rfl u9) rfl<|qq (R.addN rfl rfl om) rfl<|pr 1 rfl<|fA fo63_1 rfl<|sT sc3 hp rfl fun w hp hs => ?_
 have hR := hR.gr hs au
 have hp : Blk _ p 63 [str s, .int .i64 ((j + op.length : Nat) : Int), .int .i64 ((d : Nat) : Int), .bool acc] := hp
 have hG := hG.trans hs
 refine nsqr<|pr 1 rfl<|eN en38 rfl (ws_calls p s (j + op.length) d acc _ hp hb om) fun v w hv => ?_
 obtain ⟨hv1, hpo, hv⟩ := hv
 obtain ⟨hwa11, hwb11⟩ := Im.ws_le s (j + op.length)
 have hwb11 := hwb11 om
 clear hp
 generalize hj11 : Im.ws s (j + op.length) = j11 at hv1 hpo hwa11 hwb11
 have hp := hpo
 clear hpo
 subst hv1
 have hG := hG.trans hv
 have hR := hR.gr hv au
 refine nsq<|rQ<|dR<|prq 2 rfl<|fQ fo63_1 rfl<|lQ sc3 hp rfl rfl<|prq 2 rfl<|fQ fo63_0 rfl<|lQ sc9 hp rfl rfl<|qw (fun w hw => R.lenS rfl u9) rfl<|qw (fun w hw => R.geI rfl rfl) rfl<|Wq.nil fun w hw => ?_
 have hp := hp.grN hw
 have hR := hR.grN hw
 have hG := hG.trans (hw.no _)
 refine rS<|cD rfl (fun h12 => ?_) fun h12 => ?_
 ·refine qr<|qq (R.build (vs := [str [], str [], str [], .bool false]) (ps := []) (fun a ha => by simp) kR) rfl<|eN en21 rfl (errNew_calls _ _) fun v w hv => ?_
  obtain ⟨⟨et, eu, rfl⟩, hv⟩ := hv
  have hp := hp.grN hv
  have hG := hG.trans (hv.no _)
  have hR := hR.gr hv au
  refine W.storeAll ag99 rfl rfl hR rfl (by first | rfl | exact hcs) (by intro v hv; simp only [List.mem_cons, List.not_mem_nil, or_false] at hv; rcases hv with rfl | rfl | rfl | rfl <;> rfl) fun w hR hs => ?_
  have hp := hp.gr hs sM
  have hG := hG.fresh hs hqw
  refine pr 1 rfl<|nsth<|At.resCell2 rfl rfl (loadVar_agg ag99 hR (by first | rfl | exact hcs)) rfl ?_
  have hN : Im.attr s i = none := by
   rw [hA, Im.attrVal, hj11]
   simp only []
   rw [if_pos om]
  rw [hN]
  exact ⟨_, _, _, rfl, ⟨_, _, rfl⟩, hp, hG⟩
 refine ksqr<|pr 1 rfl<|ns<|C.cut (fun l w' => ∃ (v7 v5 : Value) (jj : Nat), l = [(0, pP p), (2, pP q), (4, str key), (6, str op), (7, v7), (5, v5)] ∧ PD p s jj d acc w' ∧ Gr w0 w' (some p) ∧ Blk w' q 99 cs ∧ (ErrV v5 ∧ Im.word s j11 = none ∨ ∃ x, v7 = str x ∧ v5 = .nilIface ∧ Im.word s j11 = some (x, jj) ∧ jj ≤ s.length)) ?_ ?_
 ·refine rQ<|dR<|prq 2 rfl<|fQ fo63_0 rfl<|lQ sc9 hp rfl rfl<|prq 2 rfl<|fQ fo63_1 rfl<|lQ sc3 hp rfl rfl<|qw (fun w hw => R.idxS rfl rfl _ rfl om u9) rfl<|Wq.nil fun w hw => ?_
  have hp := hp.grN hw
  have hR := hR.grN hw
  have hG := hG.trans (hw.no _)
  refine rS<|rO<|qqr<|qq (R.eqI rfl rfl) rfl<|pr 1 rfl<|ns<|cD rfl (fun h13 => ?_) fun h13 => ?_
  ·have h13i := h13
   rw [decide_eq_true h13i]
   refine ks<|cV rfl<|rR<|pr 1 rfl<|eN en65 rfl (imString_calls p s j11 d acc _ hp hb om) fun v w hv => ?_
   rcases hM14 : Im.string s j11 with _ | ⟨x14, j14⟩
   ·rw [hM14] at hv
    obtain ⟨rr14, ee14, j14, rfl, ⟨et14, eu14, rfl⟩, hpo, hv⟩ := hv
    clear hp
    have hp := hpo
    clear hpo
    have hR := hR.gr hv au
    have hG := hG.trans hv
    refine pr 5 rfl<|nB ?_
    exact cT [(0, pP p), (2, pP q), (4, str key), (6, str op), (7, _), (5, _)] rfl ⟨_, _, j14, rfl, hp, hG, hR, .inl ⟨⟨_, _, rfl⟩, by rw [Im.word, if_pos om, hM14]⟩⟩
   rw [hM14] at hv
   obtain ⟨rfl, hpo, hv⟩ := hv
   clear hp
   have hp := hpo
   clear hpo
   have hG := hG.trans hv
   obtain ⟨hea14, heb14, hec14⟩ := Im.string_le hM14
   have hR := hR.gr hv au
   refine pr 5 rfl<|nB ?_
   exact cT [(0, pP p), (2, pP q), (4, str key), (6, str op), (7, str x14), (5, .nilIface)] rfl ⟨_, _, j14, rfl, hp, hG, hR, .inr ⟨_, rfl, rfl, by rw [Im.word, if_pos om, hM14], om⟩⟩
  have h13i := h13
  rw [decide_eq_false h13i]
  refine rR<|qq (R.eqI rfl rfl) rfl<|pr 1 rfl<|ns<|cD rfl (fun h15 => ?_) fun h15 => ?_
  ·have h15i := h15
   rw [decide_eq_true h15i]
   refine rR<|pr 1 rfl<|eN en65 rfl (imString_calls p s j11 d acc _ hp hb om) fun v w hv => ?_
   rcases hM16 : Im.string s j11 with _ | ⟨x16, j16⟩
   ·rw [hM16] at hv
    obtain ⟨rr16, ee16, j16, rfl, ⟨et16, eu16, rfl⟩, hpo, hv⟩ := hv
    clear hp
    have hp := hpo
    clear hpo
    have hR := hR.gr hv au
    have hG := hG.trans hv
    refine pr 5 rfl<|nB ?_
    exact cT [(0, pP p), (2, pP q), (4, str key), (6, str op), (7, _), (5, _)] rfl ⟨_, _, j16, rfl, hp, hG, hR, .inl ⟨⟨_, _, rfl⟩, by rw [Im.word, if_pos om, hM16]⟩⟩
   rw [hM16] at hv
   obtain ⟨rfl, hpo, hv⟩ := hv
   clear hp
   have hp := hpo
   clear hpo
   have hG := hG.trans hv
   obtain ⟨hea16, heb16, hec16⟩ := Im.string_le hM16
   have hR := hR.gr hv au
   refine pr 5 rfl<|nB ?_
   exact cT [(0, pP p), (2, pP q), (4, str key), (6, str op), (7, str x16), (5, .nilIface)] rfl ⟨_, _, j16, rfl, hp, hG, hR, .inr ⟨_, rfl, rfl, by rw [Im.word, if_pos om, hM16], om⟩⟩
  have h15i := h15
  rw [decide_eq_false h15i]
  refine rR<|pr 1 rfl<|eN en62 rfl (ident_calls p s j11 d acc _ hp hb om) fun v w hv => ?_
  rcases hM17 : Im.ident s j11 with _ | ⟨x17, j17⟩
  ·rw [hM17] at hv
   obtain ⟨rr17, ee17, j17, rfl, ⟨et17, eu17, rfl⟩, hpo, hv⟩ := hv
   clear hp
   have hp := hpo
   clear hpo
   have hR := hR.gr hv au
   have hG := hG.trans hv
   refine pr 5 rfl<|nB ?_
   exact cT [(0, pP p), (2, pP q), (4, str key), (6, str op), (7, _), (5, _)] rfl ⟨_, _, j17, rfl, hp, hG, hR, .inl ⟨⟨_, _, rfl⟩, by rw [Im.word, if_neg om, hM17]⟩⟩
  rw [hM17] at hv
  obtain ⟨rfl, hpo, hv⟩ := hv
  clear hp
  have hp := hpo
  clear hpo
  have hG := hG.trans hv
  obtain ⟨hea17, heb17, hec17⟩ := Im.ident_le hM17
  have hR := hR.gr hv au
  refine pr 5 rfl<|nB ?_
  exact cT [(0, pP p), (2, pP q), (4, str key), (6, str op), (7, str x17), (5, .nilIface)] rfl ⟨_, _, j17, rfl, hp, hG, hR, .inr ⟨_, rfl, rfl, by rw [Im.word, if_neg om, hM17], om⟩⟩
 rintro l w ⟨v7, v5, jj, rfl, hp, hG, hR, hwd⟩
 refine rQ<|rQ ?_
 rcases hwd with ⟨⟨et, eu, rfl⟩, hwd⟩ | ⟨x, rfl, rfl, hwd, hjjl⟩
 ·refine rR<|pr 1 rfl<|qq (R.neNilT ifc44 rfl) rfl<|ns<|cV rfl<|qr<|qq (R.build (vs := [str [], str [], str [], .bool false]) (ps := []) (fun a ha => by simp) kR) rfl<|pr 1 rfl<|W.storeAll ag99 rfl rfl hR rfl (by first | rfl | exact hcs) (by intro v hv; simp only [List.mem_cons, List.not_mem_nil, or_false] at hv; rcases hv with rfl | rfl | rfl | rfl <;> rfl) fun w hR hs => ?_
  have hp := hp.gr hs sM
  have hG := hG.fresh hs hqw
  refine pr 1 rfl<|nsth<|At.resCell2 rfl rfl (loadVar_agg ag99 hR (by first | rfl | exact hcs)) rfl ?_
  have hN : Im.attr s i = none := by
   rw [hA, Im.attrVal, hj11]
   simp only []
   rw [if_neg om, hwd]
  rw [hN]
  exact ⟨_, _, _, rfl, ⟨_, _, rfl⟩, hp, hG⟩
 refine rR<|pr 1 rfl<|qq (R.neNilF ifc44 rfl) rfl<|ns<|cF rfl<|ksqr<|pr 1 rfl<|eN en38 rfl (ws_calls p s jj d acc _ hp hb om) fun v w hv => ?_
 obtain ⟨hv1, hpo, hv⟩ := hv
 obtain ⟨hwa18, hwb18⟩ := Im.ws_le s jj
 have hwb18 := hwb18 om
 clear hp
 generalize hj18 : Im.ws s jj = j18 at hv1 hpo hwa18 hwb18
 have hp := hpo
 clear hpo
 subst hv1
 have hG := hG.trans hv
 have hR := hR.gr hv au
 refine nsq<|rQ<|dR<|prq 2 rfl<|fQ fo63_1 rfl<|lQ sc3 hp rfl rfl<|prq 2 rfl<|fQ fo63_0 rfl<|lQ sc9 hp rfl rfl<|qw (fun w hw => R.lenS rfl u9) rfl<|qw (fun w hw => R.geI rfl rfl) rfl<|Wq.nil fun w hw => ?_
 have hp := hp.grN hw
 have hR := hR.grN hw
 have hG := hG.trans (hw.no _)
 refine rS<|cD rfl (fun h19 => ?_) fun h19 => ?_
 ·refine qr<|qq (R.build (vs := [str [], str [], str [], .bool false]) (ps := []) (fun a ha => by simp) kR) rfl<|eN en21 rfl (errNew_calls _ _) fun v w hv => ?_
  obtain ⟨⟨et, eu, rfl⟩, hv⟩ := hv
  have hp := hp.grN hv
  have hG := hG.trans (hv.no _)
  have hR := hR.gr hv au
  refine W.storeAll ag99 rfl rfl hR rfl (by first | rfl | exact hcs) (by intro v hv; simp only [List.mem_cons, List.not_mem_nil, or_false] at hv; rcases hv with rfl | rfl | rfl | rfl <;> rfl) fun w hR hs => ?_
  have hp := hp.gr hs sM
  have hG := hG.fresh hs hqw
  refine pr 1 rfl<|nsth<|At.resCell2 rfl rfl (loadVar_agg ag99 hR (by first | rfl | exact hcs)) rfl ?_
  have hN : Im.attr s i = none := by
   rw [hA, Im.attrVal, hj11]
   simp only []
   rw [if_neg om, hwd]
   simp only []
   rw [hj18, if_pos om]
  rw [hN]
  exact ⟨_, _, _, rfl, ⟨_, _, rfl⟩, hp, hG⟩
 refine ksqr<|pr 1 rfl<|ns<|C.cut (fun l w' => ∃ (q : Nat) (j : Nat) (key op val : List UInt8) (ins : Bool) (cs : List Value), l = [(0, pP p), (2, pP q), (4, str key), (6, str op), (7, str val), (8, .bool ins)] ∧ PD p s j d acc w' ∧ Gr w0 w' (some p) ∧ Blk w' q 99 cs ∧ cs.length = 4 ∧ p < q ∧ w0.heap.size ≤ q ∧ Im.attr s i = Im.attrEnd s key op val ins j ∧ j ≤ s.length ∧ 1 ≤ op.length) ?_ ?_
 ·refine rQ<|dR<|prq 2 rfl<|fQ fo63_0 rfl<|lQ sc9 hp rfl rfl<|prq 2 rfl<|fQ fo63_1 rfl<|lQ sc3 hp rfl rfl<|qw (fun w hw => R.idxS rfl rfl _ rfl om u9) rfl<|Wq.split (fun w hw => R.eqI rfl rfl) rfl rfl rfl (fun h20 => ?_) (fun h20 => ?_)
  ·refine prq 12 rfl<|Wq.nil fun w hw => ?_
   have hp := hp.grN hw
   have hR := hR.grN hw
   have hG := hG.trans (hw.no _)
   refine rS<|cV rfl<|qr<|pr 1 rfl<|nsr<|pr 2 rfl<|fA fo63_1 rfl<|lD sc3 hp rfl rfl<|aK rfl rfl<|pr 1 rfl<|fA fo63_1 rfl<|sT sc3 hp rfl fun w hp hs => ?_
   have hR := hR.gr hs au
   have hp : Blk _ p 63 [str s, .int .i64 ((j18 + 1 : Nat) : Int), .int .i64 ((d : Nat) : Int), .bool acc] := hp
   have hG := hG.trans hs
   refine rN ?_
   have hA : Im.attr s i = Im.attrEnd s key op x true (j18 + 1) := by
    rw [hA, Im.attrVal, hj11]
    simp only []
    rw [if_neg om, hwd]
    simp only []
    rw [hj18, if_neg om, decide_eq_true om]
    rfl
   exact cT [(0, pP p), (2, pP q), (4, str key), (6, str op), (7, str x), (8, .bool true)] rfl ⟨q, j18 + 1, _, _, _, _, _, rfl, hp, hG, hR, hcs, hpq, hqw, hA, om, hop⟩
  refine prq 3 rfl<|gw (fun w hw => R.fieldAddr fo63_0 rfl) rfl<|gw (fun w hw => R.load sc9 rfl (hp.grN hw) rfl) rfl<|prq 2 rfl<|gw (fun w hw => R.fieldAddr fo63_1 rfl) rfl<|gw (fun w hw => R.load sc3 rfl (hp.grN hw) rfl) rfl<|gw (fun w hw => R.idxS rfl rfl _ rfl om u9) rfl<|gw (fun w hw => R.eqI rfl rfl) rfl<|prq 1 rfl<|Wq.nil fun w hw => ?_
  have hp := hp.grN hw
  have hR := hR.grN hw
  have hG := hG.trans (hw.no _)
  refine rS<|cD rfl (fun h21 => ?_) fun h21 => ?_
  ·refine qr<|pr 1 rfl<|nsr<|pr 2 rfl<|fA fo63_1 rfl<|lD sc3 hp rfl rfl<|aK rfl rfl<|pr 1 rfl<|fA fo63_1 rfl<|sT sc3 hp rfl fun w hp hs => ?_
   have hR := hR.gr hs au
   have hp : Blk _ p 63 [str s, .int .i64 ((j18 + 1 : Nat) : Int), .int .i64 ((d : Nat) : Int), .bool acc] := hp
   have hG := hG.trans hs
   refine rN ?_
   have hA : Im.attr s i = Im.attrEnd s key op x true (j18 + 1) := by
    rw [hA, Im.attrVal, hj11]
    simp only []
    rw [if_neg om, hwd]
    simp only []
    rw [hj18, if_neg om, decide_eq_true om]
    rfl
   exact cT [(0, pP p), (2, pP q), (4, str key), (6, str op), (7, str x), (8, .bool true)] rfl ⟨q, j18 + 1, _, _, _, _, _, rfl, hp, hG, hR, hcs, hpq, hqw, hA, om, hop⟩
  refine rK ?_
  have hA : Im.attr s i = Im.attrEnd s key op x false (j18) := by
   rw [hA, Im.attrVal, hj11]
   simp only []
   rw [if_neg om, hwd]
   simp only []
   rw [hj18, if_neg om, decide_eq_false om]
   rfl
  exact cT [(0, pP p), (2, pP q), (4, str key), (6, str op), (7, str x), (8, .bool false)] rfl ⟨q, j18, _, _, _, _, _, rfl, hp, hG, hR, hcs, hpq, hqw, hA, om, hop⟩
 rintro l w ⟨q, j, key, op, val, ins, cs, rfl, hp, hG, hR, hcs, hpq, hqw, hA, hjl, hop⟩
 refine qr<|pr 1 rfl<|eN en38 rfl (ws_calls p s j d acc _ hp hb om) fun v w hv => ?_
 obtain ⟨hv1, hpo, hv⟩ := hv
 obtain ⟨hwa22, hwb22⟩ := Im.ws_le s j
 have hwb22 := hwb22 om
 clear hp
 generalize hj22 : Im.ws s j = j22 at hv1 hpo hwa22 hwb22
 have hp := hpo
 clear hpo
 subst hv1
 have hG := hG.trans hv
 have hR := hR.gr hv au
 refine nsq<|rQ<|dR<|prq 2 rfl<|fQ fo63_1 rfl<|lQ sc3 hp rfl rfl<|prq 2 rfl<|fQ fo63_0 rfl<|lQ sc9 hp rfl rfl<|qw (fun w hw => R.lenS rfl u9) rfl<|qw (fun w hw => R.geI rfl rfl) rfl<|Wq.nil fun w hw => ?_
 have hp := hp.grN hw
 have hR := hR.grN hw
 have hG := hG.trans (hw.no _)
 refine rS<|cD rfl (fun h23 => ?_) fun h23 => ?_
 ·refine qr<|qq (R.build (vs := [str [], str [], str [], .bool false]) (ps := []) (fun a ha => by simp) kR) rfl<|eN en21 rfl (errNew_calls _ _) fun v w hv => ?_
  obtain ⟨⟨et, eu, rfl⟩, hv⟩ := hv
  have hp := hp.grN hv
  have hG := hG.trans (hv.no _)
  have hR := hR.gr hv au
  refine W.storeAll ag99 rfl rfl hR rfl (by first | rfl | exact hcs) (by intro v hv; simp only [List.mem_cons, List.not_mem_nil, or_false] at hv; rcases hv with rfl | rfl | rfl | rfl <;> rfl) fun w hR hs => ?_
  have hp := hp.gr hs sM
  have hG := hG.fresh hs hqw
  refine pr 1 rfl<|nsth<|At.resCell2 rfl rfl (loadVar_agg ag99 hR (by first | rfl | exact hcs)) rfl ?_
  have hN : Im.attr s i = none := by
   rw [hA, Im.attrEnd, hj22, if_pos om]
  rw [hN]
  exact ⟨_, _, _, rfl, ⟨_, _, rfl⟩, hp, hG⟩
 refine ksq<|rQ<|dR<|prq 2 rfl<|fQ fo63_0 rfl<|lQ sc9 hp rfl rfl<|prq 2 rfl<|fQ fo63_1 rfl<|lQ sc3 hp rfl rfl<|qw (fun w hw => R.idxS rfl rfl _ rfl om u9) rfl<|qw (fun w hw => R.neI rfl rfl) rfl<|Wq.nil fun w hw => ?_
 have hp := hp.grN hw
 have hR := hR.grN hw
 have hG := hG.trans (hw.no _)
 refine rS<|cD rfl (fun h24 => ?_) fun h24 => ?_
 ·refine qr<|qq (R.build (vs := [str [], str [], str [], .bool false]) (ps := []) (fun a ha => by simp) kR) rfl<|eN en21 rfl (errNew_calls _ _) fun v w hv => ?_
  obtain ⟨⟨et, eu, rfl⟩, hv⟩ := hv
  have hp := hp.grN hv
  have hG := hG.trans (hv.no _)
  have hR := hR.gr hv au
  refine W.storeAll ag99 rfl rfl hR rfl (by first | rfl | exact hcs) (by intro v hv; simp only [List.mem_cons, List.not_mem_nil, or_false] at hv; rcases hv with rfl | rfl | rfl | rfl <;> rfl) fun w hR hs => ?_
  have hp := hp.gr hs sM
  have hG := hG.fresh hs hqw
  refine pr 1 rfl<|nsth<|At.resCell2 rfl rfl (loadVar_agg ag99 hR (by first | rfl | exact hcs)) rfl ?_
  have hN : Im.attr s i = none := by
   rw [hA, Im.attrEnd, hj22, if_neg om, if_pos om]
  rw [hN]
  exact ⟨_, _, _, rfl, ⟨_, _, rfl⟩, hp, hG⟩
 refine ksqr<|pr 2 rfl<|fA fo63_1 rfl<|lD sc3 hp rfl rfl<|aK rfl rfl<|pr 1 rfl<|fA fo63_1 rfl<|sT sc3 hp rfl fun w hp hs => ?_
 have hR := hR.gr hs au
 have hp : Blk _ p 63 [str s, .int .i64 ((j22 + 1 : Nat) : Int), .int .i64 ((d : Nat) : Int), .bool acc] := hp
 have hG := hG.trans hs
 refine nsqr<|pr 1 rfl<|ns<|rO<|C.cut (fun l w' => ∃ c : Bool, l = [(0, pP p), (2, pP q), (4, str key), (6, str op), (7, str val), (8, .bool ins), (249, .bool c)] ∧ PD p s (j22 + 1) d acc w' ∧ Gr w0 w' (some p) ∧ Blk w' q 99 cs ∧ c = Sp.signs.contains op) ?_ ?_
 ·refine qr<|qq (R.eqS rfl rfl) rfl<|pr 1 rfl<|ns<|cD rfl (fun h25 => ?_) fun h25 => ?_
  ·have h25i := h25
   rw [decide_eq_true h25i]
   refine rK ?_
   first
   | exact At.cut [(0, pP p), (2, pP q), (4, str key), (6, str op), (7, str val), (8, .bool ins), (249, .bool true)] ⟨rfl, rfl, rfl, rfl, rfl, rfl, rfl, trivial⟩ ⟨true, rfl, hp, hG, hR, by rw [show op = _ from by assumption]; rfl⟩
   | exact At.cut [(0, pP p), (2, pP q), (4, str key), (6, str op), (7, str val), (8, .bool ins), (249, .bool (decide (op = [42, 61])))] ⟨rfl, rfl, rfl, rfl, rfl, rfl, rfl, trivial⟩ ⟨_, rfl, hp, hG, hR, (signs_no hop aM aM aM aM aM aM).symm⟩
  have h25i := h25
  rw [decide_eq_false h25i]
  refine qr<|qq (R.eqS rfl rfl) rfl<|pr 1 rfl<|ns<|cD rfl (fun h26 => ?_) fun h26 => ?_
  ·have h26i := h26
   rw [decide_eq_true h26i]
   refine rK ?_
   first
   | exact At.cut [(0, pP p), (2, pP q), (4, str key), (6, str op), (7, str val), (8, .bool ins), (249, .bool true)] ⟨rfl, rfl, rfl, rfl, rfl, rfl, rfl, trivial⟩ ⟨true, rfl, hp, hG, hR, by rw [show op = _ from by assumption]; rfl⟩
   | exact At.cut [(0, pP p), (2, pP q), (4, str key), (6, str op), (7, str val), (8, .bool ins), (249, .bool (decide (op = [42, 61])))] ⟨rfl, rfl, rfl, rfl, rfl, rfl, rfl, trivial⟩ ⟨_, rfl, hp, hG, hR, (signs_no hop aM aM aM aM aM aM).symm⟩
  have h26i := h26
  rw [decide_eq_false h26i]
  refine qr<|qq (R.eqS rfl rfl) rfl<|pr 1 rfl<|ns<|cD rfl (fun h27 => ?_) fun h27 => ?_
  ·have h27i := h27
   rw [decide_eq_true h27i]
   refine rK ?_
   first
   | exact At.cut [(0, pP p), (2, pP q), (4, str key), (6, str op), (7, str val), (8, .bool ins), (249, .bool true)] ⟨rfl, rfl, rfl, rfl, rfl, rfl, rfl, trivial⟩ ⟨true, rfl, hp, hG, hR, by rw [show op = _ from by assumption]; rfl⟩
   | exact At.cut [(0, pP p), (2, pP q), (4, str key), (6, str op), (7, str val), (8, .bool ins), (249, .bool (decide (op = [42, 61])))] ⟨rfl, rfl, rfl, rfl, rfl, rfl, rfl, trivial⟩ ⟨_, rfl, hp, hG, hR, (signs_no hop aM aM aM aM aM aM).symm⟩
  have h27i := h27
  rw [decide_eq_false h27i]
  refine qr<|qq (R.eqS rfl rfl) rfl<|pr 1 rfl<|ns<|cD rfl (fun h28 => ?_) fun h28 => ?_
  ·have h28i := h28
   rw [decide_eq_true h28i]
   refine rK ?_
   first
   | exact At.cut [(0, pP p), (2, pP q), (4, str key), (6, str op), (7, str val), (8, .bool ins), (249, .bool true)] ⟨rfl, rfl, rfl, rfl, rfl, rfl, rfl, trivial⟩ ⟨true, rfl, hp, hG, hR, by rw [show op = _ from by assumption]; rfl⟩
   | exact At.cut [(0, pP p), (2, pP q), (4, str key), (6, str op), (7, str val), (8, .bool ins), (249, .bool (decide (op = [42, 61])))] ⟨rfl, rfl, rfl, rfl, rfl, rfl, rfl, trivial⟩ ⟨_, rfl, hp, hG, hR, (signs_no hop aM aM aM aM aM aM).symm⟩
  have h28i := h28
  rw [decide_eq_false h28i]
  refine qr<|qq (R.eqS rfl rfl) rfl<|pr 1 rfl<|ns<|cD rfl (fun h29 => ?_) fun h29 => ?_
  ·have h29i := h29
   rw [decide_eq_true h29i]
   refine rK ?_
   first
   | exact At.cut [(0, pP p), (2, pP q), (4, str key), (6, str op), (7, str val), (8, .bool ins), (249, .bool true)] ⟨rfl, rfl, rfl, rfl, rfl, rfl, rfl, trivial⟩ ⟨true, rfl, hp, hG, hR, by rw [show op = _ from by assumption]; rfl⟩
   | exact At.cut [(0, pP p), (2, pP q), (4, str key), (6, str op), (7, str val), (8, .bool ins), (249, .bool (decide (op = [42, 61])))] ⟨rfl, rfl, rfl, rfl, rfl, rfl, rfl, trivial⟩ ⟨_, rfl, hp, hG, hR, (signs_no hop aM aM aM aM aM aM).symm⟩
  have h29i := h29
  rw [decide_eq_false h29i]
  refine qr<|qq (R.eqS rfl rfl) rfl<|pr 1 rfl<|ns<|cD rfl (fun h30 => ?_) fun h30 => ?_
  ·have h30i := h30
   rw [decide_eq_true h30i]
   refine rK ?_
   first
   | exact At.cut [(0, pP p), (2, pP q), (4, str key), (6, str op), (7, str val), (8, .bool ins), (249, .bool true)] ⟨rfl, rfl, rfl, rfl, rfl, rfl, rfl, trivial⟩ ⟨true, rfl, hp, hG, hR, by rw [show op = _ from by assumption]; rfl⟩
   | exact At.cut [(0, pP p), (2, pP q), (4, str key), (6, str op), (7, str val), (8, .bool ins), (249, .bool (decide (op = [42, 61])))] ⟨rfl, rfl, rfl, rfl, rfl, rfl, rfl, trivial⟩ ⟨_, rfl, hp, hG, hR, (signs_no hop aM aM aM aM aM aM).symm⟩
  have h30i := h30
  rw [decide_eq_false h30i]
  refine rR<|qq (R.eqS rfl rfl) rfl<|pr 1 rfl<|rN ?_
  first
  | exact At.cut [(0, pP p), (2, pP q), (4, str key), (6, str op), (7, str val), (8, .bool ins), (249, .bool true)] ⟨rfl, rfl, rfl, rfl, rfl, rfl, rfl, trivial⟩ ⟨true, rfl, hp, hG, hR, by rw [show op = _ from by assumption]; rfl⟩
  | exact At.cut [(0, pP p), (2, pP q), (4, str key), (6, str op), (7, str val), (8, .bool ins), (249, .bool (decide (op = [42, 61])))] ⟨rfl, rfl, rfl, rfl, rfl, rfl, rfl, trivial⟩ ⟨_, rfl, hp, hG, hR, (signs_no hop aM aM aM aM aM aM).symm⟩
 rintro l w ⟨c, rfl, hp, hG, hR, hc⟩
 refine cC rfl (fun h31 => ?_) (fun h31 => ?_)
 ·try simp only [Bool.not_eq_true', Bool.not_eq_false'] at h31
  subst h31
  refine qr<|pr 4 rfl<|qq (R.build (vs := [str key, str val, str op, .bool ins]) (ps := [(0, str key), (1, str val), (2, str op), (3, .bool ins)]) (fun a ha => by simp [ha.ev (x := .tmp 257) rfl, ha.ev (x := .tmp 258) rfl, ha.ev (x := .tmp 259) rfl, ha.ev (x := .tmp 260) rfl]) kR) rfl<|W.storeAll ag99 rfl rfl hR rfl (by first | rfl | exact hcs) (by intro v hv; simp only [List.mem_cons, List.not_mem_nil, or_false] at hv; rcases hv with rfl | rfl | rfl | rfl <;> rfl) fun w hR hs => ?_
  have hp := hp.gr hs sM
  have hG := hG.fresh hs hqw
  refine pr 1 rfl<|nst<|rC<|At.resCell2 rfl rfl (loadVar_agg ag99 hR (by first | rfl | exact hcs)) rfl ?_
  have hN : Im.attr s i = some (.attr key val op ins, j22 + 1) := by rw [hA, Im.attrEnd, hj22, if_neg om, if_neg om, if_pos hc.symm]
  rw [hN]
  exact ⟨rfl, hp, hG⟩
 try simp only [Bool.not_eq_true', Bool.not_eq_false'] at h31
 subst h31
 refine qr<|qq (R.build (vs := [str [], str [], str [], .bool false]) (ps := []) (fun a ha => by simp) kR) rfl<|eN en21 rfl (errNew_calls _ _) fun v w hv => ?_
 obtain ⟨⟨et, eu, rfl⟩, hv⟩ := hv
 have hp := hp.grN hv
 have hG := hG.trans (hv.no _)
 have hR := hR.gr hv au
 refine W.storeAll ag99 rfl rfl hR rfl (by first | rfl | exact hcs) (by intro v hv; simp only [List.mem_cons, List.not_mem_nil, or_false] at hv; rcases hv with rfl | rfl | rfl | rfl <;> rfl) fun w hR hs => ?_
 have hp := hp.gr hs sM
 have hG := hG.fresh hs hqw
 refine pr 1 rfl<|nst<|rC<|At.resCell2 rfl rfl (loadVar_agg ag99 hR (by first | rfl | exact hcs)) rfl ?_
 have hN : Im.attr s i = none := by
  rw [hA, Im.attrEnd, hj22, if_neg om, if_neg om, if_neg (by rw [← hc]; decide)]
 rw [hN]
 exact ⟨_, _, _, rfl, ⟨_, _, rfl⟩, hp, hG⟩
end Go.Proofs.YtogfnbkccfkpoaaGreatDoor
set_option maxHeartbeats 4000000
namespace Go.Proofs.YtogfnbkccfkpoaaGreatDoor
open Go Go.RowKit
open Eng
def RNG (p : Nat) (w : World) : Prop := 5 < p ∧ ∀ k, k = 0 ∨ k = 1 ∨ k = 2 ∨ k = 5 → ∃ te pe, w.cell? ⟨k, 0, none⟩ = some (.iface te pe)
theorem RNG.gr {p : Nat} {w w' : World} (h : RNG p w) (g : Gr w w' (some p)) : RNG p w' := by
 refine ⟨h.1, fun k hk => ?_⟩
 obtain ⟨te, pe, h1⟩ := h.2 k hk
 have h5 := h.1
 exact ⟨te, pe, World.grownBy.cell g h1 sM⟩
theorem digits_of {s : List UInt8} {i j : Nat} (h : ∀ k, i ≤ k → k < j → 48 ≤ byteAt s k ∧ byteAt s k ≤ 57) : ∀ c ∈ (s.drop i).take (j - i), 48 ≤ c.toNat ∧ c.toNat ≤ 57 := by
 intro c hc
 obtain ⟨m, hm, rfl⟩ := List.getElem_of_mem hc
 simp only [List.length_take, List.length_drop] at hm
 have := h (i + m) om om
 simpa [byteAt, List.getD_eq_getElem?_getD, List.getElem?_eq_getElem (show i + m < s.length by omega)] using this
def PNth (p : Nat) (s : List UInt8) (d : Nat) (acc : Bool) (w0 : World) : Option (Int × Int × Nat) → Value → World → Prop
 | none, v, w' => ∃ a b e i, v = .tuple #[a, b, e] ∧ ErrV e ∧ PD p s i d acc w' ∧ Gr w0 w' (some p)
 | some (a, b, i), v, w' => v = .tuple #[.int .i64 a, .int .i64 b, .nilIface] ∧ PD p s i d acc w' ∧ Gr w0 w' (some p)
theorem integer_calls (p : Nat) (s : List UInt8) (i d : Nat) (acc : Bool) (w0 : World) (hp : PD p s i d acc w0) (hb : s.length ≤ 1000) (hi : i ≤ s.length) (hrng : RNG p w0) :
 CR PR 79 [pP p] w0 fun v w' => PRes p s d acc w0 (fun n : Nat => .int .i64 (n : Int)) (Im.integer s i) v w' := by
 have hG : Gr w0 w0 (some p) := Gr.refl _ _
 refine CR.of (n := 63) [(0, pP p)] Tryz.func79 rfl Tryz.ntmps79 rfl ⟨rfl, trivial⟩<|qr<|pr 2 rfl<|nsqr<|pr 2 rfl<|fA fo63_1 rfl<|lD sc3 hp rfl rfl<|pr 1 rfl<|nsqr<|pr 2 rfl<|ns<|C.cut (fun l w' => ∃ j : Nat, l = [(0, pP p), (4, .int .i64 (j : Int)), (5, .int .i64 (i : Int))] ∧ PD p s i d acc w' ∧ Gr w0 w' (some p) ∧ Im.digEnd s s.length i = j ∧ i ≤ j ∧ j ≤ s.length ∧ (∀ k, i ≤ k → k < j → 48 ≤ byteAt s k ∧ byteAt s k ≤ 57)) ?_ ?_
 ·refine rO<|sB [(0, pP p), (4, .int .i64 (i : Int)), (5, .int .i64 (i : Int))] rfl<|C.loop (fun m l w' => ∃ j : Nat, l = [(0, pP p), (4, .int .i64 (j : Int)), (5, .int .i64 (i : Int))] ∧ PD p s i d acc w' ∧ Gr w0 w' (some p) ∧ Im.digEnd s m j = Im.digEnd s s.length i ∧ s.length ≤ j + m ∧ i ≤ j ∧ j ≤ s.length ∧ (∀ k, i ≤ k → k < j → 48 ≤ byteAt s k ∧ byteAt s k ≤ 57)) (s.length) (⟨i, rfl, hp, hG, rfl, om, om, om, fun k h1 h2 => by omega⟩) ?_
  rintro m l w ⟨j, rfl, hp, hG, hE, hm, hij, hjl, hall⟩
  refine qqr<|pr 3 rfl<|fA fo63_0 rfl<|lD sc9 hp rfl rfl<|qq (R.lenS rfl u9) rfl<|W.split (R.ltI rfl rfl) rfl rfl rfl (fun h1 => ?_) (fun h1 => ?_)
  ·refine pr 3 rfl<|gg (R.fieldAddr fo63_0 rfl) rfl<|gg (R.load sc9 rfl hp rfl) rfl<|pr 1 rfl<|gg (R.idxS rfl rfl _ rfl om u9) rfl<|gg (R.leI rfl rfl) rfl<|W.split (R.pickT rfl rfl) rfl rfl rfl (fun h2 => ?_) (fun h2 => ?_)
   ·refine pr 3 rfl<|gg (R.fieldAddr fo63_0 rfl) rfl<|gg (R.load sc9 rfl hp rfl) rfl<|pr 1 rfl<|gg (R.idxS rfl rfl _ rfl om u9) rfl<|gg (R.leI rfl rfl) rfl<|pr 1 rfl<|ns<|cD rfl (fun h3 => ?_) fun h3 => ?_
    ·refine ks<|rO<|rR<|pr 1 rfl<|aK rfl rfl<|pr 1 rfl<|nB ?_
     obtain ⟨m, rfl⟩ := sU m
     rw [Im.digEnd, if_pos om] at hE
     exact At.cut [(0, pP p), (4, .int .i64 ((j + 1 : Nat) : Int)), (5, .int .i64 (i : Int))] ⟨rfl, rfl, rfl, trivial⟩ ⟨m, om, j + 1, rfl, hp, hG, hE, om, om, om, fun k h1 h2 => by
      by_cases hk : k = j
      ·subst hk; omega
      exact hall k h1 om⟩
    refine rE<|rX<|rX<|rY ?_
    have hD : Im.digEnd s s.length i = j := by
     rw [← hE]
     cases m with
     | zero => rfl
     | succ m => rw [Im.digEnd, if_neg om]
    exact cT [(0, pP p), (4, .int .i64 (j : Int)), (5, .int .i64 (i : Int))] rfl ⟨j, rfl, hp, hG, hD, hij, hjl, hall⟩
   refine pr 9 rfl<|ns<|cF rfl<|rE<|rX<|rX<|rY ?_
   have hD : Im.digEnd s s.length i = j := by
    rw [← hE]
    cases m with
    | zero => rfl
    | succ m => rw [Im.digEnd, if_neg om]
   exact cT [(0, pP p), (4, .int .i64 (j : Int)), (5, .int .i64 (i : Int))] rfl ⟨j, rfl, hp, hG, hD, hij, hjl, hall⟩
  refine pr 18 rfl<|ns<|cF rfl<|rE<|rX<|rX<|rY ?_
  have hD : Im.digEnd s s.length i = j := by
   rw [← hE]
   cases m with
   | zero => rfl
   | succ m => rw [Im.digEnd, if_neg om]
  exact cT [(0, pP p), (4, .int .i64 (j : Int)), (5, .int .i64 (i : Int))] rfl ⟨j, rfl, hp, hG, hD, hij, hjl, hall⟩
 rintro l w ⟨j, rfl, hp, hG, hD, hij, hjl, hall⟩
 refine qqr<|pr 2 rfl<|qq (R.eqI rfl rfl) rfl<|ns<|cD rfl (fun h4 => ?_) fun h4 => ?_
 ·refine qr<|eN en21 rfl (errNew_calls _ _) fun v w hv => ?_
  obtain ⟨⟨et, eu, rfl⟩, hv⟩ := hv
  have hp := hp.grN hv
  have hG := hG.trans (hv.no _)
  refine pr 2 rfl<|nsth<|At.res2 rfl rfl rfl ?_
  have hN : Im.integer s i = none := by
   rw [Im.integer]; (try simp only []); rw [hD, if_pos om]
  rw [hN]
  exact ⟨_, _, _, rfl, ⟨_, _, rfl⟩, hp, hG⟩
 refine ksqr<|pr 3 rfl<|fA fo63_1 rfl<|sT sc3 hp rfl fun w hp hs => ?_
 have hp : Blk _ p 63 [str s, .int .i64 ((j : Nat) : Int), .int .i64 ((d : Nat) : Int), .bool acc] := hp
 have hG := hG.trans hs
 refine nsqr<|pr 2 rfl<|fA fo63_0 rfl<|lD sc9 hp rfl rfl<|pr 2 rfl<|qq (R.sliceS rfl rfl rfl rfl rfl om om u9) rfl<|eN en89 rfl (atoi_calls ((s.drop i).take (j - i)) _ (by intro hq; have := congrArg List.length hq; simp only [List.length_take, List.length_drop, List.length_nil] at this; omega) (digits_of hall) (by simp only [List.length_take, List.length_drop]; omega) ((hrng.gr hG).2 5 om)) fun v w hv => ?_
 obtain ⟨hv1, hv⟩ := hv
 have hp := hp.grN hv
 have hG := hG.trans (hv.no _)
 rcases hv1 with ⟨hdn, rfl⟩ | ⟨hdn, vr, ve, rfl, et, eu, rfl⟩
 ·refine pr 5 rfl<|nsq<|qr<|pr 1 rfl<|qq (R.neNilF ifc44 rfl) rfl<|ns<|cF rfl<|ksqr<|pr 3 rfl<|nst<|At.res2 rfl rfl rfl ?_
  have hN : Im.integer s i = some (Im.digNum ((s.drop i).take (j - i)), j) := by
   rw [Im.integer]; (try simp only []); rw [hD, if_neg om, if_pos hdn]
  rw [hN]
  exact ⟨rfl, hp, hG⟩
 refine pr 5 rfl<|nsq<|qr<|pr 1 rfl<|qq (R.neNilT ifc44 rfl) rfl<|ns<|cV rfl<|qr<|pr 3 rfl<|nsth<|At.res2 rfl rfl rfl ?_
 have hN : Im.integer s i = none := by
  rw [Im.integer]; (try simp only []); rw [hD, if_neg om, if_neg hdn]
 rw [hN]
 exact ⟨_, _, _, rfl, ⟨_, _, rfl⟩, hp, hG⟩
theorem nth_calls (p : Nat) (s : List UInt8) (i d : Nat) (acc : Bool) (w0 : World) (hp : PD p s i d acc w0) (hb : s.length ≤ 1000) (hi : i ≤ s.length) (hrng : RNG p w0) :
 CR PR 69 [pP p] w0 fun v w' => PNth p s d acc w0 (Im.nth s i) v w' := by
 have hG : Gr w0 w0 (some p) := Gr.refl _ _
 refine CR.of (n := 280) [(0, pP p)] Tryz.func69 rfl Tryz.ntmps69 rfl ⟨rfl, trivial⟩<|qr<|pr 3 rfl<|ns<|C.scopeF (fun k => match k with | 0 => 0 | 4 => 0 | 3 => 1 | 5 => 2 | _ => 3) (fun k l w => match k with | 0 => ∃ j : Nat, l = [] ∧ PD p s j d acc w ∧ Gr w0 w (some p) ∧ Im.nth s i = none | 1 => ∃ j : Nat, l = [(0, pP p)] ∧ PD p s j d acc w ∧ Gr w0 w (some p) ∧ j ≤ s.length ∧ Im.nth s i = Im.readA s true j | 2 => ∃ j : Nat, l = [(0, pP p)] ∧ PD p s j d acc w ∧ Gr w0 w (some p) ∧ j ≤ s.length ∧ Im.nth s i = Im.readA s false j | 3 => ∃ (j : Nat) (a : Int), l = [(0, pP p), (2, .int .i64 a)] ∧ PD p s j d acc w ∧ Gr w0 w (some p) ∧ j ≤ s.length ∧ Im.nth s i = Im.readN s a j | 4 => ∃ j : Nat, l = [] ∧ PD p s j d acc w ∧ Gr w0 w (some p) ∧ Im.nth s i = none | 5 => ∃ (j : Nat) (a : Int), l = [(0, pP p), (2, .int .i64 a)] ∧ PD p s j d acc w ∧ Gr w0 w (some p) ∧ j ≤ s.length ∧ Im.nth s i = (if s.length ≤ j then none else if Im.isN (byteAt s j) = true then Im.readN s a (j + 1) else some (0, a, j)) | _ => False) (4) ?_ ?_
 ·refine rQ<|rQ<|dR<|prq 2 rfl<|fQ fo63_1 rfl<|lQ sc3 hp rfl rfl<|prq 2 rfl<|fQ fo63_0 rfl<|lQ sc9 hp rfl rfl<|qw (fun w hw => R.lenS rfl u9) rfl<|qw (fun w hw => R.geI rfl rfl) rfl<|Wq.nil fun w hw => ?_
  have hp := hp.grN hw
  have hG := hG.trans (hw.no _)
  refine rS<|cD rfl (fun h1 => ?_) fun h1 => ?_
  ·refine C.goto<|At.thenGoto ?_
   exact At.jump [] trivial rfl ⟨_, rfl, hp, hG, by rw [Im.nth, if_pos om]⟩
  refine ksq<|rQ<|dR<|prq 2 rfl<|fQ fo63_0 rfl<|lQ sc9 hp rfl rfl<|prq 2 rfl<|fQ fo63_1 rfl<|lQ sc3 hp rfl rfl<|qw (fun w hw => R.idxS rfl rfl _ rfl om u9) rfl<|Wq.nil fun w hw => ?_
  have hp := hp.grN hw
  have hG := hG.trans (hw.no _)
  refine rS<|rO<|qr<|qq (R.eqI rfl rfl) rfl<|pr 1 rfl<|ns<|cD rfl (fun h2 => ?_) fun h2 => ?_
  ·refine qr<|pr 2 rfl<|fA fo63_1 rfl<|lD sc3 hp rfl rfl<|aK rfl rfl<|pr 1 rfl<|fA fo63_1 rfl<|sT sc3 hp rfl fun w hp hs => ?_
   have hp : Blk _ p 63 [str s, .int .i64 ((i + 1 : Nat) : Int), .int .i64 ((d : Nat) : Int), .bool acc] := hp
   have hG := hG.trans hs
   refine ns<|C.goto<|At.blockGoto<|At.thenGoto ?_
   exact At.jump [(0, pP p)] ⟨rfl, trivial⟩ rfl ⟨i + 1, rfl, hp, hG, om, by rw [Im.nth, if_neg om, if_pos om]⟩
  refine qr<|qq (R.eqI rfl rfl) rfl<|pr 1 rfl<|ns<|cD rfl (fun h3 => ?_) fun h3 => ?_
  ·refine qr<|pr 2 rfl<|fA fo63_1 rfl<|lD sc3 hp rfl rfl<|aK rfl rfl<|pr 1 rfl<|fA fo63_1 rfl<|sT sc3 hp rfl fun w hp hs => ?_
   have hp : Blk _ p 63 [str s, .int .i64 ((i + 1 : Nat) : Int), .int .i64 ((d : Nat) : Int), .bool acc] := hp
   have hG := hG.trans hs
   refine ns<|C.goto<|At.blockGoto<|At.thenGoto ?_
   exact At.jump [(0, pP p)] ⟨rfl, trivial⟩ rfl ⟨i + 1, rfl, hp, hG, om, by rw [Im.nth, if_neg om, if_neg om, if_pos om]⟩
  refine C.cut (fun l w' => ∃ bd : Bool, l = [(0, pP p), (25, .int .u8 (byteAt s i : Int)), (44, .bool bd)] ∧ PD p s i d acc w' ∧ Gr w0 w' (some p) ∧ bd = Im.isDig (byteAt s i)) ?_ ?_
  ·refine qr<|qq (R.eqI rfl rfl) rfl<|pr 1 rfl<|ns<|cD rfl (fun h4 => ?_) fun h4 => ?_
   ·have h4i := h4
    rw [decide_eq_true h4i]
    refine rK ?_
    exact cT [(0, pP p), (25, .int .u8 (byteAt s i : Int)), (44, .bool true)] rfl ⟨true, rfl, hp, hG, by unfold Im.isDig; rw [Bool.eq_iff_iff]; simp; omega⟩
   have h4i := h4
   rw [decide_eq_false h4i]
   refine qr<|qq (R.eqI rfl rfl) rfl<|pr 1 rfl<|ns<|cD rfl (fun h5 => ?_) fun h5 => ?_
   ·have h5i := h5
    rw [decide_eq_true h5i]
    refine rK ?_
    exact cT [(0, pP p), (25, .int .u8 (byteAt s i : Int)), (44, .bool true)] rfl ⟨true, rfl, hp, hG, by unfold Im.isDig; rw [Bool.eq_iff_iff]; simp; omega⟩
   have h5i := h5
   rw [decide_eq_false h5i]
   refine qr<|qq (R.eqI rfl rfl) rfl<|pr 1 rfl<|ns<|cD rfl (fun h6 => ?_) fun h6 => ?_
   ·have h6i := h6
    rw [decide_eq_true h6i]
    refine rK ?_
    exact cT [(0, pP p), (25, .int .u8 (byteAt s i : Int)), (44, .bool true)] rfl ⟨true, rfl, hp, hG, by unfold Im.isDig; rw [Bool.eq_iff_iff]; simp; omega⟩
   have h6i := h6
   rw [decide_eq_false h6i]
   refine qr<|qq (R.eqI rfl rfl) rfl<|pr 1 rfl<|ns<|cD rfl (fun h7 => ?_) fun h7 => ?_
   ·have h7i := h7
    rw [decide_eq_true h7i]
    refine rK ?_
    exact cT [(0, pP p), (25, .int .u8 (byteAt s i : Int)), (44, .bool true)] rfl ⟨true, rfl, hp, hG, by unfold Im.isDig; rw [Bool.eq_iff_iff]; simp; omega⟩
   have h7i := h7
   rw [decide_eq_false h7i]
   refine qr<|qq (R.eqI rfl rfl) rfl<|pr 1 rfl<|ns<|cD rfl (fun h8 => ?_) fun h8 => ?_
   ·have h8i := h8
    rw [decide_eq_true h8i]
    refine rK ?_
    exact cT [(0, pP p), (25, .int .u8 (byteAt s i : Int)), (44, .bool true)] rfl ⟨true, rfl, hp, hG, by unfold Im.isDig; rw [Bool.eq_iff_iff]; simp; omega⟩
   have h8i := h8
   rw [decide_eq_false h8i]
   refine qr<|qq (R.eqI rfl rfl) rfl<|pr 1 rfl<|ns<|cD rfl (fun h9 => ?_) fun h9 => ?_
   ·have h9i := h9
    rw [decide_eq_true h9i]
    refine rK ?_
    exact cT [(0, pP p), (25, .int .u8 (byteAt s i : Int)), (44, .bool true)] rfl ⟨true, rfl, hp, hG, by unfold Im.isDig; rw [Bool.eq_iff_iff]; simp; omega⟩
   have h9i := h9
   rw [decide_eq_false h9i]
   refine qr<|qq (R.eqI rfl rfl) rfl<|pr 1 rfl<|ns<|cD rfl (fun h10 => ?_) fun h10 => ?_
   ·have h10i := h10
    rw [decide_eq_true h10i]
    refine rK ?_
    exact cT [(0, pP p), (25, .int .u8 (byteAt s i : Int)), (44, .bool true)] rfl ⟨true, rfl, hp, hG, by unfold Im.isDig; rw [Bool.eq_iff_iff]; simp; omega⟩
   have h10i := h10
   rw [decide_eq_false h10i]
   refine qr<|qq (R.eqI rfl rfl) rfl<|pr 1 rfl<|ns<|cD rfl (fun h11 => ?_) fun h11 => ?_
   ·have h11i := h11
    rw [decide_eq_true h11i]
    refine rK ?_
    exact cT [(0, pP p), (25, .int .u8 (byteAt s i : Int)), (44, .bool true)] rfl ⟨true, rfl, hp, hG, by unfold Im.isDig; rw [Bool.eq_iff_iff]; simp; omega⟩
   have h11i := h11
   rw [decide_eq_false h11i]
   refine qr<|qq (R.eqI rfl rfl) rfl<|pr 1 rfl<|ns<|cD rfl (fun h12 => ?_) fun h12 => ?_
   ·have h12i := h12
    rw [decide_eq_true h12i]
    refine rK ?_
    exact cT [(0, pP p), (25, .int .u8 (byteAt s i : Int)), (44, .bool true)] rfl ⟨true, rfl, hp, hG, by unfold Im.isDig; rw [Bool.eq_iff_iff]; simp; omega⟩
   have h12i := h12
   rw [decide_eq_false h12i]
   refine rR<|qq (R.eqI rfl rfl) rfl<|pr 1 rfl<|rN ?_
   exact cT [(0, pP p), (25, .int .u8 (byteAt s i : Int)), (44, _)] rfl ⟨_, rfl, hp, hG, by unfold Im.isDig; rw [Bool.eq_iff_iff]; simp; omega⟩
  rintro l w ⟨bd, rfl, hp, hG, hdg⟩
  refine cC rfl (fun h13 => ?_) (fun h13 => ?_)
  ·try simp only [Bool.not_eq_true', Bool.not_eq_false'] at h13
   subst h13
   refine C.goto<|At.blockGoto<|At.thenGoto ?_
   exact At.jump [(0, pP p)] ⟨rfl, trivial⟩ rfl ⟨i, rfl, hp, hG, om, by rw [Im.nth, if_neg om, if_neg om, if_neg om, if_pos hdg.symm]⟩
  try simp only [Bool.not_eq_true', Bool.not_eq_false'] at h13
  subst h13
  refine qqr<|qq (R.eqI rfl rfl) rfl<|pr 1 rfl<|ns<|cD rfl (fun h14 => ?_) fun h14 => ?_
  ·have h14i := h14
   rw [decide_eq_true h14i]
   refine ks<|cV rfl<|qr<|pr 1 rfl<|nsqr<|pr 2 rfl<|fA fo63_1 rfl<|lD sc3 hp rfl rfl<|aK rfl rfl<|pr 1 rfl<|fA fo63_1 rfl<|sT sc3 hp rfl fun w hp hs => ?_
   have hp : Blk _ p 63 [str s, .int .i64 ((i + 1 : Nat) : Int), .int .i64 ((d : Nat) : Int), .bool acc] := hp
   have hG := hG.trans hs
   refine ns<|C.goto<|At.blockGoto<|At.thenGoto ?_
   exact At.jump [(0, pP p), (2, .int .i64 1)] ⟨rfl, rfl, trivial⟩ rfl ⟨i + 1, 1, rfl, hp, hG, om, by rw [Im.nth, if_neg om, if_neg om, if_neg om, if_neg (by rw [← hdg]; decide), if_pos (by unfold Im.isN; simp; omega)]⟩
  have h14i := h14
  rw [decide_eq_false h14i]
  refine rR<|qq (R.eqI rfl rfl) rfl<|pr 1 rfl<|ns<|cD rfl (fun h15 => ?_) fun h15 => ?_
  ·have h15i := h15
   rw [decide_eq_true h15i]
   refine qr<|pr 1 rfl<|nsqr<|pr 2 rfl<|fA fo63_1 rfl<|lD sc3 hp rfl rfl<|aK rfl rfl<|pr 1 rfl<|fA fo63_1 rfl<|sT sc3 hp rfl fun w hp hs => ?_
   have hp : Blk _ p 63 [str s, .int .i64 ((i + 1 : Nat) : Int), .int .i64 ((d : Nat) : Int), .bool acc] := hp
   have hG := hG.trans hs
   refine ns<|C.goto<|At.blockGoto<|At.thenGoto ?_
   exact At.jump [(0, pP p), (2, .int .i64 1)] ⟨rfl, rfl, trivial⟩ rfl ⟨i + 1, 1, rfl, hp, hG, om, by rw [Im.nth, if_neg om, if_neg om, if_neg om, if_neg (by rw [← hdg]; decide), if_pos (by unfold Im.isN; simp; omega)]⟩
  have h15i := h15
  rw [decide_eq_false h15i]
  refine qqr<|qq (R.eqI rfl rfl) rfl<|pr 1 rfl<|ns<|cD rfl (fun h16 => ?_) fun h16 => ?_
  ·have h16i := h16
   rw [decide_eq_true h16i]
   refine ks<|cV rfl<|qr<|pr 1 rfl<|eN en64 rfl (imName_calls p s i d acc _ hp hb om) fun v w hv => ?_
   rcases hM17 : Im.name s i with _ | ⟨x17, j17⟩
   ·rw [hM17] at hv
    obtain ⟨rr17, ee17, j17, rfl, ⟨et17, eu17, rfl⟩, hpo, hv⟩ := hv
    clear hp
    have hp := hpo
    clear hpo
    have hG := hG.trans hv
    refine pr 5 rfl<|nsq<|qr<|pr 1 rfl<|qq (R.neNilT ifc44 rfl) rfl<|ns<|cV rfl<|qr<|pr 4 rfl<|nsth<|rC<|rH<|At.gtoRet<|At.res3 rfl rfl rfl rfl ?_
    have hX : Im.nth s i = none := by
     rw [Im.nth, if_neg om, if_neg om, if_neg om, if_neg (by rw [← hdg]; decide), if_neg (by unfold Im.isN; simp; omega), if_pos om, hM17]
    rw [hX]
    exact ⟨_, _, _, _, rfl, ⟨_, _, rfl⟩, hp, hG⟩
   rw [hM17] at hv
   obtain ⟨rfl, hpo, hv⟩ := hv
   clear hp
   have hp := hpo
   clear hpo
   have hG := hG.trans hv
   obtain ⟨hea17, heb17, hec17⟩ := Im.name_le om hM17
   refine pr 5 rfl<|nsq<|qr<|pr 1 rfl<|qq (R.neNilF ifc44 rfl) rfl<|ns<|cF rfl<|ksqr<|pr 1 rfl<|eN en63 rfl (lowerASCII_calls _ _ om) fun v w hv => ?_
   obtain ⟨rfl, hv⟩ := hv
   have hp := hp.grN hv
   have hG := hG.trans (hv.no _)
   refine pr 1 rfl<|nsq<|qr<|pr 1 rfl<|qq (R.eqS rfl rfl) rfl<|ns<|cD rfl (fun h18 => ?_) fun h18 => ?_
   ·refine qr<|pr 3 rfl<|nsth<|rC<|rH<|At.gtoRet<|At.res3 rfl rfl rfl rfl ?_
    have hX : Im.nth s i = some (2, 1, j17) := by
     rw [Im.nth, if_neg om, if_neg om, if_neg om, if_neg (by rw [← hdg]; decide), if_neg (by unfold Im.isN; simp; omega), if_pos om, hM17]; simp only []; rw [if_pos aM]
    rw [hX]
    exact ⟨rfl, hp, hG⟩
   refine ksq<|qr<|pr 1 rfl<|qq (R.eqS rfl rfl) rfl<|ns<|cD rfl (fun h19 => ?_) fun h19 => ?_
   ·refine qr<|pr 3 rfl<|nsth<|rC<|rH<|At.gtoRet<|At.res3 rfl rfl rfl rfl ?_
    have hX : Im.nth s i = some (2, 0, j17) := by
     rw [Im.nth, if_neg om, if_neg om, if_neg om, if_neg (by rw [← hdg]; decide), if_neg (by unfold Im.isN; simp; omega), if_pos om, hM17]; simp only []; rw [if_neg aM, if_pos aM]
    rw [hX]
    exact ⟨rfl, hp, hG⟩
   refine ksqr<|eN en21 rfl (errNew_calls _ _) fun v w hv => ?_
   obtain ⟨⟨et, eu, rfl⟩, hv⟩ := hv
   have hp := hp.grN hv
   have hG := hG.trans (hv.no _)
   refine pr 3 rfl<|nst<|rC<|rH<|At.gtoRet<|At.res3 rfl rfl rfl rfl ?_
   have hX : Im.nth s i = none := by
    rw [Im.nth, if_neg om, if_neg om, if_neg om, if_neg (by rw [← hdg]; decide), if_neg (by unfold Im.isN; simp; omega), if_pos om, hM17]; simp only []; rw [if_neg aM, if_neg aM]
   rw [hX]
   exact ⟨_, _, _, _, rfl, ⟨_, _, rfl⟩, hp, hG⟩
  have h16i := h16
  rw [decide_eq_false h16i]
  refine qr<|qq (R.eqI rfl rfl) rfl<|pr 1 rfl<|ns<|cD rfl (fun h20 => ?_) fun h20 => ?_
  ·have h20i := h20
   rw [decide_eq_true h20i]
   refine ks<|cV rfl<|qr<|pr 1 rfl<|eN en64 rfl (imName_calls p s i d acc _ hp hb om) fun v w hv => ?_
   rcases hM21 : Im.name s i with _ | ⟨x21, j21⟩
   ·rw [hM21] at hv
    obtain ⟨rr21, ee21, j21, rfl, ⟨et21, eu21, rfl⟩, hpo, hv⟩ := hv
    clear hp
    have hp := hpo
    clear hpo
    have hG := hG.trans hv
    refine pr 5 rfl<|nsq<|qr<|pr 1 rfl<|qq (R.neNilT ifc44 rfl) rfl<|ns<|cV rfl<|qr<|pr 4 rfl<|nsth<|rC<|rH<|At.gtoRet<|At.res3 rfl rfl rfl rfl ?_
    have hX : Im.nth s i = none := by
     rw [Im.nth, if_neg om, if_neg om, if_neg om, if_neg (by rw [← hdg]; decide), if_neg (by unfold Im.isN; simp; omega), if_pos om, hM21]
    rw [hX]
    exact ⟨_, _, _, _, rfl, ⟨_, _, rfl⟩, hp, hG⟩
   rw [hM21] at hv
   obtain ⟨rfl, hpo, hv⟩ := hv
   clear hp
   have hp := hpo
   clear hpo
   have hG := hG.trans hv
   obtain ⟨hea21, heb21, hec21⟩ := Im.name_le om hM21
   refine pr 5 rfl<|nsq<|qr<|pr 1 rfl<|qq (R.neNilF ifc44 rfl) rfl<|ns<|cF rfl<|ksqr<|pr 1 rfl<|eN en63 rfl (lowerASCII_calls _ _ om) fun v w hv => ?_
   obtain ⟨rfl, hv⟩ := hv
   have hp := hp.grN hv
   have hG := hG.trans (hv.no _)
   refine pr 1 rfl<|nsq<|qr<|pr 1 rfl<|qq (R.eqS rfl rfl) rfl<|ns<|cD rfl (fun h22 => ?_) fun h22 => ?_
   ·refine qr<|pr 3 rfl<|nsth<|rC<|rH<|At.gtoRet<|At.res3 rfl rfl rfl rfl ?_
    have hX : Im.nth s i = some (2, 1, j21) := by
     rw [Im.nth, if_neg om, if_neg om, if_neg om, if_neg (by rw [← hdg]; decide), if_neg (by unfold Im.isN; simp; omega), if_pos om, hM21]; simp only []; rw [if_pos aM]
    rw [hX]
    exact ⟨rfl, hp, hG⟩
   refine ksq<|qr<|pr 1 rfl<|qq (R.eqS rfl rfl) rfl<|ns<|cD rfl (fun h23 => ?_) fun h23 => ?_
   ·refine qr<|pr 3 rfl<|nsth<|rC<|rH<|At.gtoRet<|At.res3 rfl rfl rfl rfl ?_
    have hX : Im.nth s i = some (2, 0, j21) := by
     rw [Im.nth, if_neg om, if_neg om, if_neg om, if_neg (by rw [← hdg]; decide), if_neg (by unfold Im.isN; simp; omega), if_pos om, hM21]; simp only []; rw [if_neg aM, if_pos aM]
    rw [hX]
    exact ⟨rfl, hp, hG⟩
   refine ksqr<|eN en21 rfl (errNew_calls _ _) fun v w hv => ?_
   obtain ⟨⟨et, eu, rfl⟩, hv⟩ := hv
   have hp := hp.grN hv
   have hG := hG.trans (hv.no _)
   refine pr 3 rfl<|nst<|rC<|rH<|At.gtoRet<|At.res3 rfl rfl rfl rfl ?_
   have hX : Im.nth s i = none := by
    rw [Im.nth, if_neg om, if_neg om, if_neg om, if_neg (by rw [← hdg]; decide), if_neg (by unfold Im.isN; simp; omega), if_pos om, hM21]; simp only []; rw [if_neg aM, if_neg aM]
   rw [hX]
   exact ⟨_, _, _, _, rfl, ⟨_, _, rfl⟩, hp, hG⟩
  have h20i := h20
  rw [decide_eq_false h20i]
  refine qr<|qq (R.eqI rfl rfl) rfl<|pr 1 rfl<|ns<|cD rfl (fun h24 => ?_) fun h24 => ?_
  ·have h24i := h24
   rw [decide_eq_true h24i]
   refine ks<|cV rfl<|qr<|pr 1 rfl<|eN en64 rfl (imName_calls p s i d acc _ hp hb om) fun v w hv => ?_
   rcases hM25 : Im.name s i with _ | ⟨x25, j25⟩
   ·rw [hM25] at hv
    obtain ⟨rr25, ee25, j25, rfl, ⟨et25, eu25, rfl⟩, hpo, hv⟩ := hv
    clear hp
    have hp := hpo
    clear hpo
    have hG := hG.trans hv
    refine pr 5 rfl<|nsq<|qr<|pr 1 rfl<|qq (R.neNilT ifc44 rfl) rfl<|ns<|cV rfl<|qr<|pr 4 rfl<|nsth<|rC<|rH<|At.gtoRet<|At.res3 rfl rfl rfl rfl ?_
    have hX : Im.nth s i = none := by
     rw [Im.nth, if_neg om, if_neg om, if_neg om, if_neg (by rw [← hdg]; decide), if_neg (by unfold Im.isN; simp; omega), if_pos om, hM25]
    rw [hX]
    exact ⟨_, _, _, _, rfl, ⟨_, _, rfl⟩, hp, hG⟩
   rw [hM25] at hv
   obtain ⟨rfl, hpo, hv⟩ := hv
   clear hp
   have hp := hpo
   clear hpo
   have hG := hG.trans hv
   obtain ⟨hea25, heb25, hec25⟩ := Im.name_le om hM25
   refine pr 5 rfl<|nsq<|qr<|pr 1 rfl<|qq (R.neNilF ifc44 rfl) rfl<|ns<|cF rfl<|ksqr<|pr 1 rfl<|eN en63 rfl (lowerASCII_calls _ _ om) fun v w hv => ?_
   obtain ⟨rfl, hv⟩ := hv
   have hp := hp.grN hv
   have hG := hG.trans (hv.no _)
   refine pr 1 rfl<|nsq<|qr<|pr 1 rfl<|qq (R.eqS rfl rfl) rfl<|ns<|cD rfl (fun h26 => ?_) fun h26 => ?_
   ·refine qr<|pr 3 rfl<|nsth<|rC<|rH<|At.gtoRet<|At.res3 rfl rfl rfl rfl ?_
    have hX : Im.nth s i = some (2, 1, j25) := by
     rw [Im.nth, if_neg om, if_neg om, if_neg om, if_neg (by rw [← hdg]; decide), if_neg (by unfold Im.isN; simp; omega), if_pos om, hM25]; simp only []; rw [if_pos aM]
    rw [hX]
    exact ⟨rfl, hp, hG⟩
   refine ksq<|qr<|pr 1 rfl<|qq (R.eqS rfl rfl) rfl<|ns<|cD rfl (fun h27 => ?_) fun h27 => ?_
   ·refine qr<|pr 3 rfl<|nsth<|rC<|rH<|At.gtoRet<|At.res3 rfl rfl rfl rfl ?_
    have hX : Im.nth s i = some (2, 0, j25) := by
     rw [Im.nth, if_neg om, if_neg om, if_neg om, if_neg (by rw [← hdg]; decide), if_neg (by unfold Im.isN; simp; omega), if_pos om, hM25]; simp only []; rw [if_neg aM, if_pos aM]
    rw [hX]
    exact ⟨rfl, hp, hG⟩
   refine ksqr<|eN en21 rfl (errNew_calls _ _) fun v w hv => ?_
   obtain ⟨⟨et, eu, rfl⟩, hv⟩ := hv
   have hp := hp.grN hv
   have hG := hG.trans (hv.no _)
   refine pr 3 rfl<|nst<|rC<|rH<|At.gtoRet<|At.res3 rfl rfl rfl rfl ?_
   have hX : Im.nth s i = none := by
    rw [Im.nth, if_neg om, if_neg om, if_neg om, if_neg (by rw [← hdg]; decide), if_neg (by unfold Im.isN; simp; omega), if_pos om, hM25]; simp only []; rw [if_neg aM, if_neg aM]
   rw [hX]
   exact ⟨_, _, _, _, rfl, ⟨_, _, rfl⟩, hp, hG⟩
  have h24i := h24
  rw [decide_eq_false h24i]
  refine rR<|qq (R.eqI rfl rfl) rfl<|pr 1 rfl<|ns<|cD rfl (fun h28 => ?_) fun h28 => ?_
  ·have h28i := h28
   rw [decide_eq_true h28i]
   refine qr<|pr 1 rfl<|eN en64 rfl (imName_calls p s i d acc _ hp hb om) fun v w hv => ?_
   rcases hM29 : Im.name s i with _ | ⟨x29, j29⟩
   ·rw [hM29] at hv
    obtain ⟨rr29, ee29, j29, rfl, ⟨et29, eu29, rfl⟩, hpo, hv⟩ := hv
    clear hp
    have hp := hpo
    clear hpo
    have hG := hG.trans hv
    refine pr 5 rfl<|nsq<|qr<|pr 1 rfl<|qq (R.neNilT ifc44 rfl) rfl<|ns<|cV rfl<|qr<|pr 4 rfl<|nsth<|rC<|rH<|At.gtoRet<|At.res3 rfl rfl rfl rfl ?_
    have hX : Im.nth s i = none := by
     rw [Im.nth, if_neg om, if_neg om, if_neg om, if_neg (by rw [← hdg]; decide), if_neg (by unfold Im.isN; simp; omega), if_pos om, hM29]
    rw [hX]
    exact ⟨_, _, _, _, rfl, ⟨_, _, rfl⟩, hp, hG⟩
   rw [hM29] at hv
   obtain ⟨rfl, hpo, hv⟩ := hv
   clear hp
   have hp := hpo
   clear hpo
   have hG := hG.trans hv
   obtain ⟨hea29, heb29, hec29⟩ := Im.name_le om hM29
   refine pr 5 rfl<|nsq<|qr<|pr 1 rfl<|qq (R.neNilF ifc44 rfl) rfl<|ns<|cF rfl<|ksqr<|pr 1 rfl<|eN en63 rfl (lowerASCII_calls _ _ om) fun v w hv => ?_
   obtain ⟨rfl, hv⟩ := hv
   have hp := hp.grN hv
   have hG := hG.trans (hv.no _)
   refine pr 1 rfl<|nsq<|qr<|pr 1 rfl<|qq (R.eqS rfl rfl) rfl<|ns<|cD rfl (fun h30 => ?_) fun h30 => ?_
   ·refine qr<|pr 3 rfl<|nsth<|rC<|rH<|At.gtoRet<|At.res3 rfl rfl rfl rfl ?_
    have hX : Im.nth s i = some (2, 1, j29) := by
     rw [Im.nth, if_neg om, if_neg om, if_neg om, if_neg (by rw [← hdg]; decide), if_neg (by unfold Im.isN; simp; omega), if_pos om, hM29]; simp only []; rw [if_pos aM]
    rw [hX]
    exact ⟨rfl, hp, hG⟩
   refine ksq<|qr<|pr 1 rfl<|qq (R.eqS rfl rfl) rfl<|ns<|cD rfl (fun h31 => ?_) fun h31 => ?_
   ·refine qr<|pr 3 rfl<|nsth<|rC<|rH<|At.gtoRet<|At.res3 rfl rfl rfl rfl ?_
    have hX : Im.nth s i = some (2, 0, j29) := by
     rw [Im.nth, if_neg om, if_neg om, if_neg om, if_neg (by rw [← hdg]; decide), if_neg (by unfold Im.isN; simp; omega), if_pos om, hM29]; simp only []; rw [if_neg aM, if_pos aM]
    rw [hX]
    exact ⟨rfl, hp, hG⟩
   refine ksqr<|eN en21 rfl (errNew_calls _ _) fun v w hv => ?_
   obtain ⟨⟨et, eu, rfl⟩, hv⟩ := hv
   have hp := hp.grN hv
   have hG := hG.trans (hv.no _)
   refine pr 3 rfl<|nst<|rC<|rH<|At.gtoRet<|At.res3 rfl rfl rfl rfl ?_
   have hX : Im.nth s i = none := by
    rw [Im.nth, if_neg om, if_neg om, if_neg om, if_neg (by rw [← hdg]; decide), if_neg (by unfold Im.isN; simp; omega), if_pos om, hM29]; simp only []; rw [if_neg aM, if_neg aM]
   rw [hX]
   exact ⟨_, _, _, _, rfl, ⟨_, _, rfl⟩, hp, hG⟩
  have h28i := h28
  rw [decide_eq_false h28i]
  refine C.goto<|At.blockGoto<|At.thenGoto ?_
  exact At.jump [] trivial rfl ⟨_, rfl, hp, hG, by rw [Im.nth, if_neg om, if_neg om, if_neg om, if_neg (by rw [← hdg]; decide), if_neg (by unfold Im.isN; simp; omega), if_neg om]⟩
 intro k l w hJ
 match k, l, w, hJ with
 | 0, _, w, ⟨j, rfl, hp, hG, hN⟩ =>
  refine ⟨_, rfl, ?_⟩
  refine rQ<|ksq<|qr<|eN en21 rfl (errNew_calls _ _) fun v w hv => ?_
  obtain ⟨⟨et, eu, rfl⟩, hv⟩ := hv
  have hp := hp.grN hv
  have hG := hG.trans (hv.no _)
  refine pr 3 rfl<|nsth<|At.gtoRet<|At.res3 rfl rfl rfl rfl ?_
  rw [hN]
  exact ⟨_, _, _, _, rfl, ⟨_, _, rfl⟩, hp, hG⟩
 | 1, _, w, ⟨j, rfl, hp, hG, hjl, hN⟩ =>
  refine ⟨_, rfl, ?_⟩
  refine rQ<|ksq<|rQ<|dR<|prq 2 rfl<|fQ fo63_1 rfl<|lQ sc3 hp rfl rfl<|prq 2 rfl<|fQ fo63_0 rfl<|lQ sc9 hp rfl rfl<|qw (fun w hw => R.lenS rfl u9) rfl<|qw (fun w hw => R.geI rfl rfl) rfl<|Wq.nil fun w hw => ?_
  have hp := hp.grN hw
  have hG := hG.trans (hw.no _)
  refine rS<|cD rfl (fun h32 => ?_) fun h32 => ?_
  ·refine C.goto<|At.thenGoto ?_
   exact At.jump [] trivial rfl ⟨_, rfl, hp, hG, by rw [hN, Im.readA, if_pos om]⟩
  refine ksq<|rQ<|dR<|prq 2 rfl<|fQ fo63_0 rfl<|lQ sc9 hp rfl rfl<|prq 2 rfl<|fQ fo63_1 rfl<|lQ sc3 hp rfl rfl<|qw (fun w hw => R.idxS rfl rfl _ rfl om u9) rfl<|Wq.nil fun w hw => ?_
  have hp := hp.grN hw
  have hG := hG.trans (hw.no _)
  refine rS<|rO<|C.cut (fun l w' => ∃ bd : Bool, l = [(0, pP p), (151, .int .u8 (byteAt s j : Int)), (152, .bool bd)] ∧ PD p s j d acc w' ∧ Gr w0 w' (some p) ∧ bd = Im.isDig (byteAt s j)) ?_ ?_
  ·refine qr<|qq (R.eqI rfl rfl) rfl<|pr 1 rfl<|ns<|cD rfl (fun h33 => ?_) fun h33 => ?_
   ·have h33i := h33
    rw [decide_eq_true h33i]
    refine rK ?_
    exact cT [(0, pP p), (151, .int .u8 (byteAt s j : Int)), (152, .bool true)] rfl ⟨true, rfl, hp, hG, by unfold Im.isDig; rw [Bool.eq_iff_iff]; simp; omega⟩
   have h33i := h33
   rw [decide_eq_false h33i]
   refine qr<|qq (R.eqI rfl rfl) rfl<|pr 1 rfl<|ns<|cD rfl (fun h34 => ?_) fun h34 => ?_
   ·have h34i := h34
    rw [decide_eq_true h34i]
    refine rK ?_
    exact cT [(0, pP p), (151, .int .u8 (byteAt s j : Int)), (152, .bool true)] rfl ⟨true, rfl, hp, hG, by unfold Im.isDig; rw [Bool.eq_iff_iff]; simp; omega⟩
   have h34i := h34
   rw [decide_eq_false h34i]
   refine qr<|qq (R.eqI rfl rfl) rfl<|pr 1 rfl<|ns<|cD rfl (fun h35 => ?_) fun h35 => ?_
   ·have h35i := h35
    rw [decide_eq_true h35i]
    refine rK ?_
    exact cT [(0, pP p), (151, .int .u8 (byteAt s j : Int)), (152, .bool true)] rfl ⟨true, rfl, hp, hG, by unfold Im.isDig; rw [Bool.eq_iff_iff]; simp; omega⟩
   have h35i := h35
   rw [decide_eq_false h35i]
   refine qr<|qq (R.eqI rfl rfl) rfl<|pr 1 rfl<|ns<|cD rfl (fun h36 => ?_) fun h36 => ?_
   ·have h36i := h36
    rw [decide_eq_true h36i]
    refine rK ?_
    exact cT [(0, pP p), (151, .int .u8 (byteAt s j : Int)), (152, .bool true)] rfl ⟨true, rfl, hp, hG, by unfold Im.isDig; rw [Bool.eq_iff_iff]; simp; omega⟩
   have h36i := h36
   rw [decide_eq_false h36i]
   refine qr<|qq (R.eqI rfl rfl) rfl<|pr 1 rfl<|ns<|cD rfl (fun h37 => ?_) fun h37 => ?_
   ·have h37i := h37
    rw [decide_eq_true h37i]
    refine rK ?_
    exact cT [(0, pP p), (151, .int .u8 (byteAt s j : Int)), (152, .bool true)] rfl ⟨true, rfl, hp, hG, by unfold Im.isDig; rw [Bool.eq_iff_iff]; simp; omega⟩
   have h37i := h37
   rw [decide_eq_false h37i]
   refine qr<|qq (R.eqI rfl rfl) rfl<|pr 1 rfl<|ns<|cD rfl (fun h38 => ?_) fun h38 => ?_
   ·have h38i := h38
    rw [decide_eq_true h38i]
    refine rK ?_
    exact cT [(0, pP p), (151, .int .u8 (byteAt s j : Int)), (152, .bool true)] rfl ⟨true, rfl, hp, hG, by unfold Im.isDig; rw [Bool.eq_iff_iff]; simp; omega⟩
   have h38i := h38
   rw [decide_eq_false h38i]
   refine qr<|qq (R.eqI rfl rfl) rfl<|pr 1 rfl<|ns<|cD rfl (fun h39 => ?_) fun h39 => ?_
   ·have h39i := h39
    rw [decide_eq_true h39i]
    refine rK ?_
    exact cT [(0, pP p), (151, .int .u8 (byteAt s j : Int)), (152, .bool true)] rfl ⟨true, rfl, hp, hG, by unfold Im.isDig; rw [Bool.eq_iff_iff]; simp; omega⟩
   have h39i := h39
   rw [decide_eq_false h39i]
   refine qr<|qq (R.eqI rfl rfl) rfl<|pr 1 rfl<|ns<|cD rfl (fun h40 => ?_) fun h40 => ?_
   ·have h40i := h40
    rw [decide_eq_true h40i]
    refine rK ?_
    exact cT [(0, pP p), (151, .int .u8 (byteAt s j : Int)), (152, .bool true)] rfl ⟨true, rfl, hp, hG, by unfold Im.isDig; rw [Bool.eq_iff_iff]; simp; omega⟩
   have h40i := h40
   rw [decide_eq_false h40i]
   refine qr<|qq (R.eqI rfl rfl) rfl<|pr 1 rfl<|ns<|cD rfl (fun h41 => ?_) fun h41 => ?_
   ·have h41i := h41
    rw [decide_eq_true h41i]
    refine rK ?_
    exact cT [(0, pP p), (151, .int .u8 (byteAt s j : Int)), (152, .bool true)] rfl ⟨true, rfl, hp, hG, by unfold Im.isDig; rw [Bool.eq_iff_iff]; simp; omega⟩
   have h41i := h41
   rw [decide_eq_false h41i]
   refine rR<|qq (R.eqI rfl rfl) rfl<|pr 1 rfl<|rN ?_
   exact cT [(0, pP p), (151, .int .u8 (byteAt s j : Int)), (152, _)] rfl ⟨_, rfl, hp, hG, by unfold Im.isDig; rw [Bool.eq_iff_iff]; simp; omega⟩
  rintro l w ⟨bd, rfl, hp, hG, hdg⟩
  refine cC rfl (fun h42 => ?_) (fun h42 => ?_)
  ·try simp only [Bool.not_eq_true', Bool.not_eq_false'] at h42
   subst h42
   refine qr<|pr 1 rfl<|eN en79 rfl (integer_calls p s j d acc _ hp hb om (hrng.gr hG)) fun v w hv => ?_
   rcases hM43 : Im.integer s j with _ | ⟨x43, j43⟩
   ·rw [hM43] at hv
    obtain ⟨rr43, ee43, j43, rfl, ⟨et43, eu43, rfl⟩, hpo, hv⟩ := hv
    clear hp
    have hp := hpo
    clear hpo
    have hG := hG.trans hv
    refine pr 5 rfl<|nsq<|qr<|pr 1 rfl<|qq (R.neNilT ifc44 rfl) rfl<|ns<|cV rfl<|qr<|pr 4 rfl<|nsth<|rC<|rH<|At.gtoRet<|At.res3 rfl rfl rfl rfl ?_
    have hX : Im.nth s i = none := by
     rw [hN, Im.readA, if_neg om, if_pos hdg.symm, hM43]
    rw [hX]
    exact ⟨_, _, _, _, rfl, ⟨_, _, rfl⟩, hp, hG⟩
   rw [hM43] at hv
   obtain ⟨rfl, hpo, hv⟩ := hv
   clear hp
   have hp := hpo
   clear hpo
   have hG := hG.trans hv
   obtain ⟨hea43, heb43, hec43⟩ := Im.integer_le om hM43
   refine pr 5 rfl<|nsq<|qr<|pr 1 rfl<|qq (R.neNilF ifc44 rfl) rfl<|ns<|cF rfl<|ksqr<|pr 1 rfl<|qq (R.neg rfl (IntWalk.i64_in _ om)) rfl<|pr 1 rfl<|ns<|C.goto<|At.blockGoto<|At.thenGoto ?_
   exact At.jump [(0, pP p), (2, .int .i64 (-((x43 : Nat) : Int)))] ⟨rfl, rfl, trivial⟩ rfl ⟨j43, _, rfl, hp, hG, om, by rw [hN, Im.readA, if_neg om, if_pos hdg.symm, hM43]; rfl⟩
  try simp only [Bool.not_eq_true', Bool.not_eq_false'] at h42
  subst h42
  refine qqr<|qq (R.eqI rfl rfl) rfl<|pr 1 rfl<|ns<|cD rfl (fun h44 => ?_) fun h44 => ?_
  ·have h44i := h44
   rw [decide_eq_true h44i]
   refine ks<|cV rfl<|qr<|pr 1 rfl<|nsqr<|pr 2 rfl<|fA fo63_1 rfl<|lD sc3 hp rfl rfl<|aK rfl rfl<|pr 1 rfl<|fA fo63_1 rfl<|sT sc3 hp rfl fun w hp hs => ?_
   have hp : Blk _ p 63 [str s, .int .i64 ((j + 1 : Nat) : Int), .int .i64 ((d : Nat) : Int), .bool acc] := hp
   have hG := hG.trans hs
   refine ns<|C.goto<|At.blockGoto<|At.thenGoto ?_
   exact At.jump [(0, pP p), (2, .int .i64 (-1))] ⟨rfl, rfl, trivial⟩ rfl ⟨j + 1, _, rfl, hp, hG, om, by rw [hN, Im.readA, if_neg om, if_neg (by rw [← hdg]; decide), if_pos (by unfold Im.isN; simp; omega)]; rfl⟩
  have h44i := h44
  rw [decide_eq_false h44i]
  refine rR<|qq (R.eqI rfl rfl) rfl<|pr 1 rfl<|ns<|cD rfl (fun h45 => ?_) fun h45 => ?_
  ·have h45i := h45
   rw [decide_eq_true h45i]
   refine qr<|pr 1 rfl<|nsqr<|pr 2 rfl<|fA fo63_1 rfl<|lD sc3 hp rfl rfl<|aK rfl rfl<|pr 1 rfl<|fA fo63_1 rfl<|sT sc3 hp rfl fun w hp hs => ?_
   have hp : Blk _ p 63 [str s, .int .i64 ((j + 1 : Nat) : Int), .int .i64 ((d : Nat) : Int), .bool acc] := hp
   have hG := hG.trans hs
   refine ns<|C.goto<|At.blockGoto<|At.thenGoto ?_
   exact At.jump [(0, pP p), (2, .int .i64 (-1))] ⟨rfl, rfl, trivial⟩ rfl ⟨j + 1, _, rfl, hp, hG, om, by rw [hN, Im.readA, if_neg om, if_neg (by rw [← hdg]; decide), if_pos (by unfold Im.isN; simp; omega)]; rfl⟩
  have h45i := h45
  rw [decide_eq_false h45i]
  refine C.goto<|At.blockGoto<|At.thenGoto ?_
  exact At.jump [] trivial rfl ⟨_, rfl, hp, hG, by rw [hN, Im.readA, if_neg om, if_neg (by rw [← hdg]; decide), if_neg (by unfold Im.isN; simp; omega)]⟩
 | 2, _, w, ⟨j, rfl, hp, hG, hjl, hN⟩ =>
  refine ⟨_, rfl, ?_⟩
  refine rQ<|ksq<|rQ<|dR<|prq 2 rfl<|fQ fo63_1 rfl<|lQ sc3 hp rfl rfl<|prq 2 rfl<|fQ fo63_0 rfl<|lQ sc9 hp rfl rfl<|qw (fun w hw => R.lenS rfl u9) rfl<|qw (fun w hw => R.geI rfl rfl) rfl<|Wq.nil fun w hw => ?_
  have hp := hp.grN hw
  have hG := hG.trans (hw.no _)
  refine rS<|cD rfl (fun h46 => ?_) fun h46 => ?_
  ·refine C.goto<|At.thenGoto ?_
   exact At.jump [] trivial rfl ⟨_, rfl, hp, hG, by rw [hN, Im.readA, if_pos om]⟩
  refine ksq<|rQ<|dR<|prq 2 rfl<|fQ fo63_0 rfl<|lQ sc9 hp rfl rfl<|prq 2 rfl<|fQ fo63_1 rfl<|lQ sc3 hp rfl rfl<|qw (fun w hw => R.idxS rfl rfl _ rfl om u9) rfl<|Wq.nil fun w hw => ?_
  have hp := hp.grN hw
  have hG := hG.trans (hw.no _)
  refine rS<|rO<|C.cut (fun l w' => ∃ bd : Bool, l = [(0, pP p), (103, .int .u8 (byteAt s j : Int)), (104, .bool bd)] ∧ PD p s j d acc w' ∧ Gr w0 w' (some p) ∧ bd = Im.isDig (byteAt s j)) ?_ ?_
  ·refine qr<|qq (R.eqI rfl rfl) rfl<|pr 1 rfl<|ns<|cD rfl (fun h47 => ?_) fun h47 => ?_
   ·have h47i := h47
    rw [decide_eq_true h47i]
    refine rK ?_
    exact cT [(0, pP p), (103, .int .u8 (byteAt s j : Int)), (104, .bool true)] rfl ⟨true, rfl, hp, hG, by unfold Im.isDig; rw [Bool.eq_iff_iff]; simp; omega⟩
   have h47i := h47
   rw [decide_eq_false h47i]
   refine qr<|qq (R.eqI rfl rfl) rfl<|pr 1 rfl<|ns<|cD rfl (fun h48 => ?_) fun h48 => ?_
   ·have h48i := h48
    rw [decide_eq_true h48i]
    refine rK ?_
    exact cT [(0, pP p), (103, .int .u8 (byteAt s j : Int)), (104, .bool true)] rfl ⟨true, rfl, hp, hG, by unfold Im.isDig; rw [Bool.eq_iff_iff]; simp; omega⟩
   have h48i := h48
   rw [decide_eq_false h48i]
   refine qr<|qq (R.eqI rfl rfl) rfl<|pr 1 rfl<|ns<|cD rfl (fun h49 => ?_) fun h49 => ?_
   ·have h49i := h49
    rw [decide_eq_true h49i]
    refine rK ?_
    exact cT [(0, pP p), (103, .int .u8 (byteAt s j : Int)), (104, .bool true)] rfl ⟨true, rfl, hp, hG, by unfold Im.isDig; rw [Bool.eq_iff_iff]; simp; omega⟩
   have h49i := h49
   rw [decide_eq_false h49i]
   refine qr<|qq (R.eqI rfl rfl) rfl<|pr 1 rfl<|ns<|cD rfl (fun h50 => ?_) fun h50 => ?_
   ·have h50i := h50
    rw [decide_eq_true h50i]
    refine rK ?_
    exact cT [(0, pP p), (103, .int .u8 (byteAt s j : Int)), (104, .bool true)] rfl ⟨true, rfl, hp, hG, by unfold Im.isDig; rw [Bool.eq_iff_iff]; simp; omega⟩
   have h50i := h50
   rw [decide_eq_false h50i]
   refine qr<|qq (R.eqI rfl rfl) rfl<|pr 1 rfl<|ns<|cD rfl (fun h51 => ?_) fun h51 => ?_
   ·have h51i := h51
    rw [decide_eq_true h51i]
    refine rK ?_
    exact cT [(0, pP p), (103, .int .u8 (byteAt s j : Int)), (104, .bool true)] rfl ⟨true, rfl, hp, hG, by unfold Im.isDig; rw [Bool.eq_iff_iff]; simp; omega⟩
   have h51i := h51
   rw [decide_eq_false h51i]
   refine qr<|qq (R.eqI rfl rfl) rfl<|pr 1 rfl<|ns<|cD rfl (fun h52 => ?_) fun h52 => ?_
   ·have h52i := h52
    rw [decide_eq_true h52i]
    refine rK ?_
    exact cT [(0, pP p), (103, .int .u8 (byteAt s j : Int)), (104, .bool true)] rfl ⟨true, rfl, hp, hG, by unfold Im.isDig; rw [Bool.eq_iff_iff]; simp; omega⟩
   have h52i := h52
   rw [decide_eq_false h52i]
   refine qr<|qq (R.eqI rfl rfl) rfl<|pr 1 rfl<|ns<|cD rfl (fun h53 => ?_) fun h53 => ?_
   ·have h53i := h53
    rw [decide_eq_true h53i]
    refine rK ?_
    exact cT [(0, pP p), (103, .int .u8 (byteAt s j : Int)), (104, .bool true)] rfl ⟨true, rfl, hp, hG, by unfold Im.isDig; rw [Bool.eq_iff_iff]; simp; omega⟩
   have h53i := h53
   rw [decide_eq_false h53i]
   refine qr<|qq (R.eqI rfl rfl) rfl<|pr 1 rfl<|ns<|cD rfl (fun h54 => ?_) fun h54 => ?_
   ·have h54i := h54
    rw [decide_eq_true h54i]
    refine rK ?_
    exact cT [(0, pP p), (103, .int .u8 (byteAt s j : Int)), (104, .bool true)] rfl ⟨true, rfl, hp, hG, by unfold Im.isDig; rw [Bool.eq_iff_iff]; simp; omega⟩
   have h54i := h54
   rw [decide_eq_false h54i]
   refine qr<|qq (R.eqI rfl rfl) rfl<|pr 1 rfl<|ns<|cD rfl (fun h55 => ?_) fun h55 => ?_
   ·have h55i := h55
    rw [decide_eq_true h55i]
    refine rK ?_
    exact cT [(0, pP p), (103, .int .u8 (byteAt s j : Int)), (104, .bool true)] rfl ⟨true, rfl, hp, hG, by unfold Im.isDig; rw [Bool.eq_iff_iff]; simp; omega⟩
   have h55i := h55
   rw [decide_eq_false h55i]
   refine rR<|qq (R.eqI rfl rfl) rfl<|pr 1 rfl<|rN ?_
   exact cT [(0, pP p), (103, .int .u8 (byteAt s j : Int)), (104, _)] rfl ⟨_, rfl, hp, hG, by unfold Im.isDig; rw [Bool.eq_iff_iff]; simp; omega⟩
  rintro l w ⟨bd, rfl, hp, hG, hdg⟩
  refine cC rfl (fun h56 => ?_) (fun h56 => ?_)
  ·try simp only [Bool.not_eq_true', Bool.not_eq_false'] at h56
   subst h56
   refine qr<|pr 1 rfl<|eN en79 rfl (integer_calls p s j d acc _ hp hb om (hrng.gr hG)) fun v w hv => ?_
   rcases hM57 : Im.integer s j with _ | ⟨x57, j57⟩
   ·rw [hM57] at hv
    obtain ⟨rr57, ee57, j57, rfl, ⟨et57, eu57, rfl⟩, hpo, hv⟩ := hv
    clear hp
    have hp := hpo
    clear hpo
    have hG := hG.trans hv
    refine pr 5 rfl<|nsq<|qr<|pr 1 rfl<|qq (R.neNilT ifc44 rfl) rfl<|ns<|cV rfl<|qr<|pr 4 rfl<|nsth<|rC<|rH<|At.gtoRet<|At.res3 rfl rfl rfl rfl ?_
    have hX : Im.nth s i = none := by
     rw [hN, Im.readA, if_neg om, if_pos hdg.symm, hM57]
    rw [hX]
    exact ⟨_, _, _, _, rfl, ⟨_, _, rfl⟩, hp, hG⟩
   rw [hM57] at hv
   obtain ⟨rfl, hpo, hv⟩ := hv
   clear hp
   have hp := hpo
   clear hpo
   have hG := hG.trans hv
   obtain ⟨hea57, heb57, hec57⟩ := Im.integer_le om hM57
   refine pr 5 rfl<|nsq<|qr<|pr 1 rfl<|qq (R.neNilF ifc44 rfl) rfl<|ns<|cF rfl<|ks<|C.goto<|At.blockGoto<|At.thenGoto ?_
   exact At.jump [(0, pP p), (2, .int .i64 (((x57 : Nat) : Int)))] ⟨rfl, rfl, trivial⟩ rfl ⟨j57, _, rfl, hp, hG, om, by rw [hN, Im.readA, if_neg om, if_pos hdg.symm, hM57]; rfl⟩
  try simp only [Bool.not_eq_true', Bool.not_eq_false'] at h56
  subst h56
  refine qqr<|qq (R.eqI rfl rfl) rfl<|pr 1 rfl<|ns<|cD rfl (fun h58 => ?_) fun h58 => ?_
  ·have h58i := h58
   rw [decide_eq_true h58i]
   refine ks<|cV rfl<|qr<|pr 1 rfl<|nsqr<|pr 2 rfl<|fA fo63_1 rfl<|lD sc3 hp rfl rfl<|aK rfl rfl<|pr 1 rfl<|fA fo63_1 rfl<|sT sc3 hp rfl fun w hp hs => ?_
   have hp : Blk _ p 63 [str s, .int .i64 ((j + 1 : Nat) : Int), .int .i64 ((d : Nat) : Int), .bool acc] := hp
   have hG := hG.trans hs
   refine ns<|C.goto<|At.blockGoto<|At.thenGoto ?_
   exact At.jump [(0, pP p), (2, .int .i64 (1))] ⟨rfl, rfl, trivial⟩ rfl ⟨j + 1, _, rfl, hp, hG, om, by rw [hN, Im.readA, if_neg om, if_neg (by rw [← hdg]; decide), if_pos (by unfold Im.isN; simp; omega)]; rfl⟩
  have h58i := h58
  rw [decide_eq_false h58i]
  refine rR<|qq (R.eqI rfl rfl) rfl<|pr 1 rfl<|ns<|cD rfl (fun h59 => ?_) fun h59 => ?_
  ·have h59i := h59
   rw [decide_eq_true h59i]
   refine qr<|pr 1 rfl<|nsqr<|pr 2 rfl<|fA fo63_1 rfl<|lD sc3 hp rfl rfl<|aK rfl rfl<|pr 1 rfl<|fA fo63_1 rfl<|sT sc3 hp rfl fun w hp hs => ?_
   have hp : Blk _ p 63 [str s, .int .i64 ((j + 1 : Nat) : Int), .int .i64 ((d : Nat) : Int), .bool acc] := hp
   have hG := hG.trans hs
   refine ns<|C.goto<|At.blockGoto<|At.thenGoto ?_
   exact At.jump [(0, pP p), (2, .int .i64 (1))] ⟨rfl, rfl, trivial⟩ rfl ⟨j + 1, _, rfl, hp, hG, om, by rw [hN, Im.readA, if_neg om, if_neg (by rw [← hdg]; decide), if_pos (by unfold Im.isN; simp; omega)]; rfl⟩
  have h59i := h59
  rw [decide_eq_false h59i]
  refine C.goto<|At.blockGoto<|At.thenGoto ?_
  exact At.jump [] trivial rfl ⟨_, rfl, hp, hG, by rw [hN, Im.readA, if_neg om, if_neg (by rw [← hdg]; decide), if_neg (by unfold Im.isN; simp; omega)]⟩
 | 3, _, w, ⟨j, a, rfl, hp, hG, hjl, hN⟩ =>
  refine ⟨_, rfl, ?_⟩
  refine rQ<|ksqr<|pr 1 rfl<|eN en38 rfl (ws_calls p s j d acc _ hp hb om) fun v w hv => ?_
  obtain ⟨hv1, hpo, hv⟩ := hv
  obtain ⟨hwa60, hwb60⟩ := Im.ws_le s j
  have hwb60 := hwb60 om
  clear hp
  generalize hj60 : Im.ws s j = j60 at hv1 hpo hwa60 hwb60
  have hp := hpo
  clear hpo
  subst hv1
  have hG := hG.trans hv
  refine nsq<|rQ<|dR<|prq 2 rfl<|fQ fo63_1 rfl<|lQ sc3 hp rfl rfl<|prq 2 rfl<|fQ fo63_0 rfl<|lQ sc9 hp rfl rfl<|qw (fun w hw => R.lenS rfl u9) rfl<|qw (fun w hw => R.geI rfl rfl) rfl<|Wq.nil fun w hw => ?_
  have hp := hp.grN hw
  have hG := hG.trans (hw.no _)
  refine rS<|cD rfl (fun h61 => ?_) fun h61 => ?_
  ·refine C.goto<|At.thenGoto ?_
   exact At.jump [] trivial rfl ⟨_, rfl, hp, hG, by rw [hN, Im.readN]; (try simp only []); rw [hj60, if_pos om]⟩
  refine ksq<|rQ<|dR<|prq 2 rfl<|fQ fo63_0 rfl<|lQ sc9 hp rfl rfl<|prq 2 rfl<|fQ fo63_1 rfl<|lQ sc3 hp rfl rfl<|qw (fun w hw => R.idxS rfl rfl _ rfl om u9) rfl<|Wq.nil fun w hw => ?_
  have hp := hp.grN hw
  have hG := hG.trans (hw.no _)
  refine rS<|rO<|qr<|qq (R.eqI rfl rfl) rfl<|pr 1 rfl<|ns<|cD rfl (fun h62 => ?_) fun h62 => ?_
  ·refine qr<|pr 2 rfl<|fA fo63_1 rfl<|lD sc3 hp rfl rfl<|aK rfl rfl<|pr 1 rfl<|fA fo63_1 rfl<|sT sc3 hp rfl fun w hp hs => ?_
   have hp : Blk _ p 63 [str s, .int .i64 ((j60 + 1 : Nat) : Int), .int .i64 ((d : Nat) : Int), .bool acc] := hp
   have hG := hG.trans hs
   refine nsqr<|pr 1 rfl<|eN en38 rfl (ws_calls p s (j60 + 1) d acc _ hp hb om) fun v w hv => ?_
   obtain ⟨hv1, hpo, hv⟩ := hv
   obtain ⟨hwa63, hwb63⟩ := Im.ws_le s (j60 + 1)
   have hwb63 := hwb63 om
   clear hp
   generalize hj63 : Im.ws s (j60 + 1) = j63 at hv1 hpo hwa63 hwb63
   have hp := hpo
   clear hpo
   subst hv1
   have hG := hG.trans hv
   refine nsqr<|pr 1 rfl<|eN en79 rfl (integer_calls p s j63 d acc _ hp hb om (hrng.gr hG)) fun v w hv => ?_
   rcases hM64 : Im.integer s j63 with _ | ⟨x64, j64⟩
   ·rw [hM64] at hv
    obtain ⟨rr64, ee64, j64, rfl, ⟨et64, eu64, rfl⟩, hpo, hv⟩ := hv
    clear hp
    have hp := hpo
    clear hpo
    have hG := hG.trans hv
    refine pr 5 rfl<|nsq<|qr<|pr 1 rfl<|qq (R.neNilT ifc44 rfl) rfl<|ns<|cV rfl<|qr<|pr 4 rfl<|nsth<|rC<|rH<|At.gtoRet<|At.res3 rfl rfl rfl rfl ?_
    have hX : Im.nth s i = none := by
     rw [hN, Im.readN]; (try simp only []); rw [hj60, if_neg om, if_pos om, hj63, hM64]
    rw [hX]
    exact ⟨_, _, _, _, rfl, ⟨_, _, rfl⟩, hp, hG⟩
   rw [hM64] at hv
   obtain ⟨rfl, hpo, hv⟩ := hv
   clear hp
   have hp := hpo
   clear hpo
   have hG := hG.trans hv
   obtain ⟨hea64, heb64, hec64⟩ := Im.integer_le om hM64
   refine pr 5 rfl<|nsq<|qr<|pr 1 rfl<|qq (R.neNilF ifc44 rfl) rfl<|ns<|cF rfl<|ksqr<|pr 5 rfl<|nst<|rC<|rH<|At.gtoRet<|At.res3 rfl rfl rfl rfl ?_
   have hX : Im.nth s i = some (a, ((x64 : Nat) : Int), j64) := by
    rw [hN, Im.readN]; (try simp only []); rw [hj60, if_neg om, if_pos om, hj63, hM64]
   rw [hX]
   exact ⟨rfl, hp, hG⟩
  refine qr<|qq (R.eqI rfl rfl) rfl<|pr 1 rfl<|ns<|cD rfl (fun h65 => ?_) fun h65 => ?_
  ·refine qr<|pr 2 rfl<|fA fo63_1 rfl<|lD sc3 hp rfl rfl<|aK rfl rfl<|pr 1 rfl<|fA fo63_1 rfl<|sT sc3 hp rfl fun w hp hs => ?_
   have hp : Blk _ p 63 [str s, .int .i64 ((j60 + 1 : Nat) : Int), .int .i64 ((d : Nat) : Int), .bool acc] := hp
   have hG := hG.trans hs
   refine nsqr<|pr 1 rfl<|eN en38 rfl (ws_calls p s (j60 + 1) d acc _ hp hb om) fun v w hv => ?_
   obtain ⟨hv1, hpo, hv⟩ := hv
   obtain ⟨hwa66, hwb66⟩ := Im.ws_le s (j60 + 1)
   have hwb66 := hwb66 om
   clear hp
   generalize hj66 : Im.ws s (j60 + 1) = j66 at hv1 hpo hwa66 hwb66
   have hp := hpo
   clear hpo
   subst hv1
   have hG := hG.trans hv
   refine nsqr<|pr 1 rfl<|eN en79 rfl (integer_calls p s j66 d acc _ hp hb om (hrng.gr hG)) fun v w hv => ?_
   rcases hM67 : Im.integer s j66 with _ | ⟨x67, j67⟩
   ·rw [hM67] at hv
    obtain ⟨rr67, ee67, j67, rfl, ⟨et67, eu67, rfl⟩, hpo, hv⟩ := hv
    clear hp
    have hp := hpo
    clear hpo
    have hG := hG.trans hv
    refine pr 5 rfl<|nsq<|qr<|pr 1 rfl<|qq (R.neNilT ifc44 rfl) rfl<|ns<|cV rfl<|qr<|pr 4 rfl<|nsth<|rC<|rH<|At.gtoRet<|At.res3 rfl rfl rfl rfl ?_
    have hX : Im.nth s i = none := by
     rw [hN, Im.readN]; (try simp only []); rw [hj60, if_neg om, if_neg om, if_pos om, hj66, hM67]
    rw [hX]
    exact ⟨_, _, _, _, rfl, ⟨_, _, rfl⟩, hp, hG⟩
   rw [hM67] at hv
   obtain ⟨rfl, hpo, hv⟩ := hv
   clear hp
   have hp := hpo
   clear hpo
   have hG := hG.trans hv
   obtain ⟨hea67, heb67, hec67⟩ := Im.integer_le om hM67
   refine pr 5 rfl<|nsq<|qr<|pr 1 rfl<|qq (R.neNilF ifc44 rfl) rfl<|ns<|cF rfl<|ksqr<|pr 2 rfl<|qq (R.neg rfl (IntWalk.i64_in _ om)) rfl<|pr 3 rfl<|nst<|rC<|rH<|At.gtoRet<|At.res3 rfl rfl rfl rfl ?_
   have hX : Im.nth s i = some (a, -((x67 : Nat) : Int), j67) := by
    rw [hN, Im.readN]; (try simp only []); rw [hj60, if_neg om, if_neg om, if_pos om, hj66, hM67]
   rw [hX]
   exact ⟨rfl, hp, hG⟩
  refine qr<|pr 4 rfl<|nst<|rC<|rH<|At.gtoRet<|At.res3 rfl rfl rfl rfl ?_
  have hX : Im.nth s i = some (a, 0, j60) := by
   rw [hN, Im.readN]; (try simp only []); rw [hj60, if_neg om, if_neg om, if_neg om]
  rw [hX]
  exact ⟨rfl, hp, hG⟩
 | 4, _, w, ⟨j, rfl, hp, hG, hN⟩ =>
  refine ⟨_, rfl, ?_⟩
  refine rQ<|ksqr<|eN en21 rfl (errNew_calls _ _) fun v w hv => ?_
  obtain ⟨⟨et, eu, rfl⟩, hv⟩ := hv
  have hp := hp.grN hv
  have hG := hG.trans (hv.no _)
  refine pr 3 rfl<|nst<|At.gtoRet<|At.res3 rfl rfl rfl rfl ?_
  rw [hN]
  exact ⟨_, _, _, _, rfl, ⟨_, _, rfl⟩, hp, hG⟩
 | 5, _, w, ⟨j, a, rfl, hp, hG, hjl, hN⟩ =>
  refine ⟨_, rfl, ?_⟩
  refine rQ<|ksq<|rQ<|dR<|prq 2 rfl<|fQ fo63_1 rfl<|lQ sc3 hp rfl rfl<|prq 2 rfl<|fQ fo63_0 rfl<|lQ sc9 hp rfl rfl<|qw (fun w hw => R.lenS rfl u9) rfl<|qw (fun w hw => R.geI rfl rfl) rfl<|Wq.nil fun w hw => ?_
  have hp := hp.grN hw
  have hG := hG.trans (hw.no _)
  refine rS<|cD rfl (fun h68 => ?_) fun h68 => ?_
  ·refine C.goto<|At.thenGoto ?_
   exact At.jump [] trivial rfl ⟨_, rfl, hp, hG, by rw [hN, if_pos om]⟩
  refine ksq<|rQ<|dR<|prq 2 rfl<|fQ fo63_0 rfl<|lQ sc9 hp rfl rfl<|prq 2 rfl<|fQ fo63_1 rfl<|lQ sc3 hp rfl rfl<|qw (fun w hw => R.idxS rfl rfl _ rfl om u9) rfl<|Wq.nil fun w hw => ?_
  have hp := hp.grN hw
  have hG := hG.trans (hw.no _)
  refine rS<|rO<|qqr<|qq (R.eqI rfl rfl) rfl<|pr 1 rfl<|ns<|cD rfl (fun h69 => ?_) fun h69 => ?_
  ·have h69i := h69
   rw [decide_eq_true h69i]
   refine ks<|cV rfl<|qr<|pr 2 rfl<|fA fo63_1 rfl<|lD sc3 hp rfl rfl<|aK rfl rfl<|pr 1 rfl<|fA fo63_1 rfl<|sT sc3 hp rfl fun w hp hs => ?_
   have hp : Blk _ p 63 [str s, .int .i64 ((j + 1 : Nat) : Int), .int .i64 ((d : Nat) : Int), .bool acc] := hp
   have hG := hG.trans hs
   exact ns<|C.goto<|At.blockGoto<|At.thenGoto<|At.jump [(0, pP p), (2, .int .i64 a)] ⟨rfl, rfl, trivial⟩ rfl ⟨j + 1, a, rfl, hp, hG, om, by rw [hN, if_neg om, if_pos (by unfold Im.isN; simp; omega)]⟩
  have h69i := h69
  rw [decide_eq_false h69i]
  refine rR<|qq (R.eqI rfl rfl) rfl<|pr 1 rfl<|ns<|cD rfl (fun h70 => ?_) fun h70 => ?_
  ·have h70i := h70
   rw [decide_eq_true h70i]
   refine qr<|pr 2 rfl<|fA fo63_1 rfl<|lD sc3 hp rfl rfl<|aK rfl rfl<|pr 1 rfl<|fA fo63_1 rfl<|sT sc3 hp rfl fun w hp hs => ?_
   have hp : Blk _ p 63 [str s, .int .i64 ((j + 1 : Nat) : Int), .int .i64 ((d : Nat) : Int), .bool acc] := hp
   have hG := hG.trans hs
   exact ns<|C.goto<|At.blockGoto<|At.thenGoto<|At.jump [(0, pP p), (2, .int .i64 a)] ⟨rfl, rfl, trivial⟩ rfl ⟨j + 1, a, rfl, hp, hG, om, by rw [hN, if_neg om, if_pos (by unfold Im.isN; simp; omega)]⟩
  have h70i := h70
  rw [decide_eq_false h70i]
  refine qr<|pr 4 rfl<|nst<|rC<|rH<|At.gtoRet<|At.res3 rfl rfl rfl rfl ?_
  have hX : Im.nth s i = some (0, a, j) := by
   rw [hN, if_neg om, if_neg (by unfold Im.isN; simp; omega)]
  rw [hX]
  exact ⟨rfl, hp, hG⟩
 | n + 6, _, _, h => exact h.elim
end Go.Proofs.YtogfnbkccfkpoaaGreatDoor
