/- A part (6) of the proof of the row of laws.FnFromText: lemmas on Pse, Sim, Kid, Cmp, Nod. No condition but what each statement says. -/
import Derived.Test.YtogfnbkccfkpoaaGreatDoorU05
set_option linter.unusedSimpArgs false
set_option linter.unusedVariables false
set_option maxRecDepth 100000
namespace Go.Proofs.YtogfnbkccfkpoaaGreatDoor
open Go Go.RowKit
open Eng
theorem argument_calls (g : Nat) (s : List UInt8) (p0 : Nat) (b0 u0 ps : Bool) (w0 : World) (hr : RD g ⟨s, p0, b0, u0, ps⟩ w0) (hb : s.length ≤ 1000) (hp : p0 ≤ s.length + 1) (grp : Rd → ST × Rd) (hgle : ∀ r, Sp.Ok r → Sp.Step 3 r (grp r)) (hgrp : GrpOk g s ps grp p0) (kind : Nat) (flag : Option Nat) (hfl : ∀ fl, flag = some fl → fl ≤ 3) : CR PR 60 [pP g, .int .i64 (kind : Int), .int .i64 (Sp.flagI flag)] w0 (Made g w0 (Sp.argument grp kind flag ⟨s, p0, b0, u0, ps⟩)) := by
 cases flag with
 | some fl => exact argument_some g s p0 b0 u0 ps w0 hr hb hp grp kind fl (hfl fl rfl)
 | none => exact argument_none g s p0 b0 u0 ps w0 hr hb hp grp hgle hgrp kind
def Sp.plainX (nm : List UInt8) : SelN := (Sp.plain nm).getD (SelN.mk1 0)
theorem plain_calls2 (nm : List UInt8) (w0 : World) : CR PR 57 [str nm] w0 fun v w' => v = .tuple #[.agg ((Sp.plainX nm).cells 0).toArray, .bool (Sp.plain nm).isSome] ∧ Gr w0 w' none :=
 (plain_calls nm w0).mono fun v w' h => ⟨by rw [h.1, Sp.plainV, Sp.plainX]; cases Sp.plain nm <;> rfl, h.2⟩
theorem Sp.nthFlag_le {nm : List UInt8} {fl : Nat} (h : Sp.nthFlag nm = some fl) : fl ≤ 3 := by
 unfold Sp.nthFlag at h
 (repeat' split at h) <;> simp at h <;> omega
theorem Sp.flagI_neg {o : Option Nat} : Sp.flagI o < 0 ↔ o = none := by
 cases o with
 | none => simp [Sp.flagI]
 | some k => simp [Sp.flagI]
theorem GrpOk.mono {g : Nat} {s : List UInt8} {ps : Bool} {grp : Rd → ST × Rd} {lo lo' : Nat} (h : GrpOk g s ps grp lo) (hl : lo ≤ lo') : GrpOk g s ps grp lo' := fun p b u w h1 h2 h3 => h p b u w om h2 h3
section
variable {grp : Rd → ST × Rd} {r r1 r2 : Rd} {k : List UInt8}
theorem Sp.pseudo_1 (e : Sp.name r = (k, r1)) (hb : r1.bad = true) : Sp.pseudo grp r = (Sp.failed, r1.refuse) := by
 unfold Sp.pseudo; simp only [e, hb, if_true]; rfl
theorem Sp.pseudo_2 (e : Sp.name r = (k, r1)) (hb : r1.bad = false) (hs : (Sp.plain (Sp.lower k)).isSome = true) (h40 : Sp.next r1 = 40) : Sp.pseudo grp r = (Sp.failed, r1.unsure.refuse) := by
 obtain ⟨x, hx⟩ := Option.isSome_iff_exists.1 hs
 unfold Sp.pseudo; simp only [e, hb, hx, h40, if_true, Bool.false_eq_true, if_false]; rfl
theorem Sp.pseudo_3 (e : Sp.name r = (k, r1)) (hb : r1.bad = false) (hs : (Sp.plain (Sp.lower k)).isSome = true) (h40 : ¬ Sp.next r1 = 40) : Sp.pseudo grp r = (ST.node (Sp.plainX (Sp.lower k)) [], r1) := by
 obtain ⟨x, hx⟩ := Option.isSome_iff_exists.1 hs
 unfold Sp.pseudo; simp only [e, hb, hx, h40, Bool.false_eq_true, if_false, Sp.plainX, Option.getD_some]
theorem Sp.pseudo_4 (e : Sp.name r = (k, r1)) (hb : r1.bad = false) (hs : (Sp.plain (Sp.lower k)).isSome = false) (ho : Sp.isOpen (Sp.lower k) = true) : Sp.pseudo grp r = (Sp.failed, r1.unsure.refuse) := by
 have hx : Sp.plain (Sp.lower k) = none := by simpa using hs
 unfold Sp.pseudo; simp only [e, hb, hx, ho, if_true, Bool.false_eq_true, if_false]; rfl
theorem Sp.pseudo_5 (e : Sp.name r = (k, r1)) (hb : r1.bad = false) (hs : (Sp.plain (Sp.lower k)).isSome = false) (ho : Sp.isOpen (Sp.lower k) = false) (hf : Sp.nthFlag (Sp.lower k) = none ∧ Sp.kindOf (Sp.lower k) = 0) : Sp.pseudo grp r = (Sp.failed, r1.refuse) := by
 have hx : Sp.plain (Sp.lower k) = none := by simpa using hs
 unfold Sp.pseudo; simp only [e, hb, hx, ho, Bool.false_eq_true, if_false]; rw [if_pos hf]; rfl
theorem Sp.pseudo_6 (e : Sp.name r = (k, r1)) (hb : r1.bad = false) (hs : (Sp.plain (Sp.lower k)).isSome = false) (ho : Sp.isOpen (Sp.lower k) = false) (hf : ¬ (Sp.nthFlag (Sp.lower k) = none ∧ Sp.kindOf (Sp.lower k) = 0)) (e2 : Sp.taken r1 [40] = (false, r2)) : Sp.pseudo grp r = (Sp.failed, r2.refuse) := by
 have hx : Sp.plain (Sp.lower k) = none := by simpa using hs
 unfold Sp.pseudo; simp only [e, hb, hx, ho, Bool.false_eq_true, if_false]; rw [if_neg hf]; simp only [e2, Bool.false_eq_true, if_false]; rfl
theorem Sp.pseudo_7 (e : Sp.name r = (k, r1)) (hb : r1.bad = false) (hs : (Sp.plain (Sp.lower k)).isSome = false) (ho : Sp.isOpen (Sp.lower k) = false) (hf : ¬ (Sp.nthFlag (Sp.lower k) = none ∧ Sp.kindOf (Sp.lower k) = 0)) (e2 : Sp.taken r1 [40] = (true, r2)) : Sp.pseudo grp r = Sp.argument grp (Sp.kindOf (Sp.lower k)) (Sp.nthFlag (Sp.lower k)) r2 := by
 have hx : Sp.plain (Sp.lower k) = none := by simpa using hs
 unfold Sp.pseudo; simp only [e, hb, hx, ho, Bool.false_eq_true, if_false]; rw [if_neg hf]; simp only [e2, if_true]
end
theorem pseudo_calls (g : Nat) (s : List UInt8) (p0 : Nat) (b0 u0 ps : Bool) (w0 : World) (hr : RD g ⟨s, p0, b0, u0, ps⟩ w0) (hb : s.length ≤ 1000) (hp : p0 ≤ s.length + 1) (grp : Rd → ST × Rd) (hgle : ∀ r, Sp.Ok r → Sp.Step 3 r (grp r)) (hgrp : GrpOk g s ps grp p0) :
 CR PR 46 [pP g] w0 fun v w' => Made g w0 (Sp.pseudo grp ⟨s, p0, b0, u0, ps⟩) v w' := by
 have hr : RK g s p0 b0 u0 ps _ := hr
 have hG : Gr w0 w0 (some g) := Gr.refl _ _
 refine CR.of (n := 72) [(0, pP g)] Tryz.func46 rfl Tryz.ntmps46 rfl ⟨rfl, trivial⟩<|qr<|pr 1 rfl<|nsqr<|pr 1 rfl<|eN en36 rfl (name_calls g s p0 b0 u0 ps _ hr hb om) fun v w hv => ?_
 obtain ⟨v1, p1, b1, u1, e1, hp1a, hp1b, hb1, hu1, hl1, rfl, hr, hv⟩ := spl2 (Sp.name_le ⟨s, p0, b0, u0, ps⟩ okk) hv
 have hG := hG.trans hv
 refine eN en35 rfl (lower_calls _ _ om) fun v w hv => ?_
 obtain ⟨rfl, hv⟩ := hv
 have hr := hr.grN hv
 have hG := hG.trans (hv.no _)
 refine pr 1 rfl<|nsq<|qr<|pr 2 rfl<|fA fo38_2 rfl<|lD sc4 hr rfl rfl<|ns<|cC rfl (fun h2 => ?_) (fun h2 => ?_)
 ·try simp only [Bool.not_eq_true', Bool.not_eq_false'] at h2
  subst h2
  have hr : RK g s p1 true u1 ps _ := hr
  refine qr<|pr 1 rfl<|eN en28 rfl (fail_calls g s p1 true u1 ps _ hr) fun v w hv => ?_
  obtain ⟨hO, hr, hv⟩ := hv
  have hO := own_mono hO hG.size
  have hG := hG.trans hv
  have hr : RK g s p1 true u1 ps _ := hr
  refine pr 1 rfl<|nsth<|rA rfl rfl ?_
  rw [Sp.pseudo_1 e1 rfl]
  exact ⟨hO, hr, hG⟩
 try simp only [Bool.not_eq_true', Bool.not_eq_false'] at h2
 subst h2
 have hr : RK g s p1 false u1 ps _ := hr
 refine ksq<|qr<|pr 1 rfl<|eN en57 rfl (plain_calls2 _ _) fun v w hv => ?_
 obtain ⟨rfl, hv⟩ := hv
 have hr := hr.grN hv
 have hG := hG.trans (hv.no _)
 refine pr 3 rfl ?_
 have hsz := hG.size
 have hgl := hr.lt
 refine W.alloc z53 rfl fun w q hqz hX hv => ?_
 have hr := hr.grN hv
 have hG := hG.trans (hv.no _)
 have hgq : g < q := by omega
 have hqw : w0.heap.size ≤ q := by omega
 refine W.storeAll ag53 rfl rfl hX rfl rfl (SelN.cells_one _ _) fun w hX hs => ?_
 have hr := hr.gr hs sM
 have hG := hG.fresh hs hqw
 refine pr 1 rfl<|nsqr<|pr 1 rfl<|ns<|cC rfl (fun h3 => ?_) (fun h3 => ?_)
 ·try simp only [Bool.not_eq_true', Bool.not_eq_false'] at h3
  refine qqr<|pr 1 rfl<|eN en26 rfl (nx_calls g s p1 false u1 ps _ hr hb om) fun v w hv => ?_
  obtain ⟨rfl, hv⟩ := hv
  have hr := hr.grN hv
  have hG := hG.trans (hv.no _)
  have hnx := Sp.nx_lt s (p1)
  have hX := hX.gr hv au
  refine qq (R.eqI rfl rfl) rfl<|ns<|cD rfl (fun h4 => ?_) fun h4 => ?_
  ·refine qr<|pr 2 rfl<|fA fo38_3 rfl<|sT sc4 hr rfl fun w hr hs => ?_
   have hX := hX.gr hs sM
   have hr : RK g s p1 false true ps _ := hr
   have hG := hG.trans hs
   refine nsqr<|pr 1 rfl<|eN en28 rfl (fail_calls g s p1 false true ps _ hr) fun v w hv => ?_
   obtain ⟨hO, hr, hv⟩ := hv
   have hO := own_mono hO hG.size
   have hG := hG.trans hv
   have hX := hX.gr hv au
   have hr : RK g s p1 true true ps _ := hr
   refine pr 1 rfl<|nsth<|rH<|rA rfl rfl ?_
   rw [Sp.pseudo_2 e1 rfl aM (by rw [Sp.next_mk]; omega)]
   exact ⟨hO, hr, hG⟩
  refine ksqr<|qq (R.loadAgg (k := 8) (vs := SelN.cells (Sp.plainX (Sp.lower v1)) 0) ag53 rfl hX (Nat.le_refl 8) rfl) rfl<|eN en19 rfl (SelMade0 (Sp.plainX (Sp.lower v1)) _) fun v w hv => ?_
  obtain ⟨hO, hv⟩ := hv
  have hO := own_mono hO hG.size
  have hr := hr.grN hv
  have hG := hG.trans (hv.no _)
  have hX := hX.gr hv au
  refine pr 1 rfl<|nsth<|rA rfl rfl ?_
  rw [Sp.pseudo_3 e1 rfl aM (by rw [Sp.next_mk]; omega)]
  exact ⟨hO, hr, hG⟩
 try simp only [Bool.not_eq_true', Bool.not_eq_false'] at h3
 refine ksq<|qr<|pr 1 rfl<|eN en58 rfl (open_calls _ _) fun v w hv => ?_
 obtain ⟨rfl, hv⟩ := hv
 have hr := hr.grN hv
 have hG := hG.trans (hv.no _)
 have hX := hX.gr hv au
 refine ns<|cC rfl (fun h5 => ?_) (fun h5 => ?_)
 ·try simp only [Bool.not_eq_true', Bool.not_eq_false'] at h5
  refine qr<|pr 2 rfl<|fA fo38_3 rfl<|sT sc4 hr rfl fun w hr hs => ?_
  have hX := hX.gr hs sM
  have hr : RK g s p1 false true ps _ := hr
  have hG := hG.trans hs
  refine nsqr<|pr 1 rfl<|eN en28 rfl (fail_calls g s p1 false true ps _ hr) fun v w hv => ?_
  obtain ⟨hO, hr, hv⟩ := hv
  have hO := own_mono hO hG.size
  have hG := hG.trans hv
  have hX := hX.gr hv au
  have hr : RK g s p1 true true ps _ := hr
  refine pr 1 rfl<|nsth<|rA rfl rfl ?_
  rw [Sp.pseudo_4 e1 rfl aM aM]
  exact ⟨hO, hr, hG⟩
 try simp only [Bool.not_eq_true', Bool.not_eq_false'] at h5
 refine ksq ?_
 have hPl : (Sp.plain (Sp.lower v1)).isSome = false := by assumption
 have hOp : Sp.isOpen (Sp.lower v1) = false := by assumption
 refine rR<|pr 1 rfl<|eN en59 rfl (nthFlag_calls _ _) fun v w hv => ?_
 obtain ⟨rfl, hv⟩ := hv
 have hr := hr.grN hv
 have hG := hG.trans (hv.no _)
 have hX := hX.gr hv au
 refine pr 1 rfl<|nsqr<|pr 1 rfl<|ns<|C.cut (fun l w' => l = [(0, pP g), (3, str (Sp.lower v1)), (6, .int .i64 (Sp.flagI (Sp.nthFlag (Sp.lower v1)))), (7, .int .i64 (Sp.kindOf (Sp.lower v1) : Int))] ∧ Blk w' q 53 ((Sp.plainX (Sp.lower v1)).cells 0) ∧ RD g ⟨s, p1, false, u1, ps⟩ w' ∧ Gr w0 w' (some g)) ?_ ?_
 ·refine qr<|pr 1 rfl<|ns<|rO<|qr<|qq (R.eqS rfl rfl) rfl<|pr 1 rfl<|ns<|cD rfl (fun h6 => ?_) fun h6 => ?_
  ·refine rR<|pr 1 rfl<|nB ?_
   have hK : Sp.kindOf (Sp.lower v1) = 18 := by rw [Sp.kindOf, if_pos h6]
   exact cT [(0, pP g), (3, str (Sp.lower v1)), (6, .int .i64 (Sp.flagI (Sp.nthFlag (Sp.lower v1)))), (7, .int .i64 ((18 : Nat) : Int))] rfl ⟨by rw [hK], hX, hr, hG⟩
  refine qr<|qq (R.eqS rfl rfl) rfl<|pr 1 rfl<|ns<|cD rfl (fun h7 => ?_) fun h7 => ?_
  ·refine rR<|pr 1 rfl<|nB ?_
   have hK : Sp.kindOf (Sp.lower v1) = 19 := by rw [Sp.kindOf, if_neg h6, if_pos h7]
   exact cT [(0, pP g), (3, str (Sp.lower v1)), (6, .int .i64 (Sp.flagI (Sp.nthFlag (Sp.lower v1)))), (7, .int .i64 ((19 : Nat) : Int))] rfl ⟨by rw [hK], hX, hr, hG⟩
  refine qr<|qq (R.eqS rfl rfl) rfl<|pr 1 rfl<|ns<|cD rfl (fun h8 => ?_) fun h8 => ?_
  ·refine rR<|pr 1 rfl<|nB ?_
   have hK : Sp.kindOf (Sp.lower v1) = 20 := by rw [Sp.kindOf, if_neg h6, if_neg h7, if_pos h8]
   exact cT [(0, pP g), (3, str (Sp.lower v1)), (6, .int .i64 (Sp.flagI (Sp.nthFlag (Sp.lower v1)))), (7, .int .i64 ((20 : Nat) : Int))] rfl ⟨by rw [hK], hX, hr, hG⟩
  refine qr<|qq (R.eqS rfl rfl) rfl<|pr 1 rfl<|ns<|cD rfl (fun h9 => ?_) fun h9 => ?_
  ·refine rR<|pr 1 rfl<|nB ?_
   have hK : Sp.kindOf (Sp.lower v1) = 16 := by rw [Sp.kindOf, if_neg h6, if_neg h7, if_neg h8, if_pos h9]
   exact cT [(0, pP g), (3, str (Sp.lower v1)), (6, .int .i64 (Sp.flagI (Sp.nthFlag (Sp.lower v1)))), (7, .int .i64 ((16 : Nat) : Int))] rfl ⟨by rw [hK], hX, hr, hG⟩
  refine qr<|qq (R.eqS rfl rfl) rfl<|pr 1 rfl<|ns<|cD rfl (fun h10 => ?_) fun h10 => ?_
  ·refine rR<|pr 1 rfl<|nB ?_
   have hK : Sp.kindOf (Sp.lower v1) = 17 := by rw [Sp.kindOf, if_neg h6, if_neg h7, if_neg h8, if_neg h9, if_pos h10]
   exact cT [(0, pP g), (3, str (Sp.lower v1)), (6, .int .i64 (Sp.flagI (Sp.nthFlag (Sp.lower v1)))), (7, .int .i64 ((17 : Nat) : Int))] rfl ⟨by rw [hK], hX, hr, hG⟩
  refine qr<|qq (R.eqS rfl rfl) rfl<|pr 1 rfl<|ns<|cD rfl (fun h11 => ?_) fun h11 => ?_
  ·refine rR<|pr 1 rfl<|nB ?_
   have hK : Sp.kindOf (Sp.lower v1) = 15 := by rw [Sp.kindOf, if_neg h6, if_neg h7, if_neg h8, if_neg h9, if_neg h10, if_pos h11]
   exact cT [(0, pP g), (3, str (Sp.lower v1)), (6, .int .i64 (Sp.flagI (Sp.nthFlag (Sp.lower v1)))), (7, .int .i64 ((15 : Nat) : Int))] rfl ⟨by rw [hK], hX, hr, hG⟩
  refine rK<|rB ?_
  have hK : Sp.kindOf (Sp.lower v1) = 0 := by rw [Sp.kindOf, if_neg h6, if_neg h7, if_neg h8, if_neg h9, if_neg h10, if_neg h11]
  exact cT [(0, pP g), (3, str (Sp.lower v1)), (6, .int .i64 (Sp.flagI (Sp.nthFlag (Sp.lower v1)))), (7, .int .i64 ((0 : Nat) : Int))] rfl ⟨by rw [hK], hX, hr, hG⟩
 rintro l w ⟨rfl, hX, hr, hG⟩
 have hr : RK g s p1 false u1 ps _ := hr
 refine qqr<|pr 1 rfl<|W.split (R.ltI rfl rfl) rfl rfl rfl (fun h12 => ?_) (fun h12 => ?_)
 ·refine pr 2 rfl<|gg (R.eqI rfl rfl) rfl<|W.split (R.pickT rfl rfl) rfl rfl rfl (fun h13 => ?_) (fun h13 => ?_)
  ·refine pr 5 rfl<|ns<|cV rfl<|qr<|pr 1 rfl<|eN en28 rfl (fail_calls g s p1 false u1 ps _ hr) fun v w hv => ?_
   obtain ⟨hO, hr, hv⟩ := hv
   have hO := own_mono hO hG.size
   have hG := hG.trans hv
   have hX := hX.gr hv au
   have hr : RK g s p1 true u1 ps _ := hr
   refine pr 1 rfl<|nsth<|rA rfl rfl ?_
   rw [Sp.pseudo_5 e1 rfl hPl hOp ⟨Sp.flagI_neg.1 om, om⟩]
   exact ⟨hO, hr, hG⟩
  refine pr 2 rfl<|gN rfl en18 rfl (taken_calls g ⟨s, p1, false, u1, ps⟩ _ hr hb sO [40] dC) fun v w hv => ?_
  obtain ⟨v14, p14, b14, u14, e14, hp14a, hp14b, hb14, hu14, rfl, hr, hv⟩ := spl (Sp.taken_le ⟨s, p1, false, u1, ps⟩ [40] okk) hv
  have hG := hG.trans hv
  have hX := hX.gr hv au
  refine pr 2 rfl<|ns<|cC rfl (fun h15 => ?_) (fun h15 => ?_)
  ·try simp only [Bool.not_eq_true', Bool.not_eq_false'] at h15
   subst h15
   have hr : RK g s p14 b14 u14 ps _ := hr
   refine qr<|pr 1 rfl<|eN en28 rfl (fail_calls g s p14 b14 u14 ps _ hr) fun v w hv => ?_
   obtain ⟨hO, hr, hv⟩ := hv
   have hO := own_mono hO hG.size
   have hG := hG.trans hv
   have hX := hX.gr hv au
   have hr : RK g s p14 true u14 ps _ := hr
   refine pr 1 rfl<|nsth<|rA rfl rfl ?_
   rw [Sp.pseudo_6 e1 rfl hPl hOp (fun hq => by have h1 := Sp.flagI_neg.2 hq.1; have h2 := hq.2; omega) e14]
   exact ⟨hO, hr, hG⟩
  try simp only [Bool.not_eq_true', Bool.not_eq_false'] at h15
  subst h15
  have hr : RK g s p14 b14 u14 ps _ := hr
  refine ksqr<|pr 3 rfl<|eN en60 rfl (argument_calls g s p14 b14 u14 ps _ hr hb om grp hgle (hgrp.mono om) _ (Sp.nthFlag (Sp.lower v1)) (fun fl h => Sp.nthFlag_le h)) fun v w hv => ?_
  obtain ⟨hO, hr, hv⟩ := hv
  have hO := own_mono hO hG.size
  have hG := hG.trans hv
  have hX := hX.gr hv au
  refine pr 1 rfl<|nst<|rA rfl rfl ?_
  rw [Sp.pseudo_7 e1 rfl hPl hOp (fun hq => by have h1 := Sp.flagI_neg.2 hq.1; have h2 := hq.2; omega) e14]
  exact ⟨hO, hr, hG⟩
 refine pr 6 rfl<|gN rfl en18 rfl (taken_calls g ⟨s, p1, false, u1, ps⟩ _ hr hb sO [40] dC) fun v w hv => ?_
 obtain ⟨v16, p16, b16, u16, e16, hp16a, hp16b, hb16, hu16, rfl, hr, hv⟩ := spl (Sp.taken_le ⟨s, p1, false, u1, ps⟩ [40] okk) hv
 have hG := hG.trans hv
 have hX := hX.gr hv au
 refine pr 2 rfl<|ns<|cC rfl (fun h17 => ?_) (fun h17 => ?_)
 ·try simp only [Bool.not_eq_true', Bool.not_eq_false'] at h17
  subst h17
  have hr : RK g s p16 b16 u16 ps _ := hr
  refine qr<|pr 1 rfl<|eN en28 rfl (fail_calls g s p16 b16 u16 ps _ hr) fun v w hv => ?_
  obtain ⟨hO, hr, hv⟩ := hv
  have hO := own_mono hO hG.size
  have hG := hG.trans hv
  have hX := hX.gr hv au
  have hr : RK g s p16 true u16 ps _ := hr
  refine pr 1 rfl<|nsth<|rA rfl rfl ?_
  rw [Sp.pseudo_6 e1 rfl hPl hOp (fun hq => by have h1 := Sp.flagI_neg.2 hq.1; have h2 := hq.2; omega) e16]
  exact ⟨hO, hr, hG⟩
 try simp only [Bool.not_eq_true', Bool.not_eq_false'] at h17
 subst h17
 have hr : RK g s p16 b16 u16 ps _ := hr
 refine ksqr<|pr 3 rfl<|eN en60 rfl (argument_calls g s p16 b16 u16 ps _ hr hb om grp hgle (hgrp.mono om) _ (Sp.nthFlag (Sp.lower v1)) (fun fl h => Sp.nthFlag_le h)) fun v w hv => ?_
 obtain ⟨hO, hr, hv⟩ := hv
 have hO := own_mono hO hG.size
 have hG := hG.trans hv
 have hX := hX.gr hv au
 refine pr 1 rfl<|nst<|rA rfl rfl ?_
 rw [Sp.pseudo_7 e1 rfl hPl hOp (fun hq => by have h1 := Sp.flagI_neg.2 hq.1; have h2 := hq.2; omega) e16]
 exact ⟨hO, hr, hG⟩
def MadeL (g : Nat) (w0 : World) (M : List ST × List UInt8 × Bool × Rd) (v : Value) (w' : World) : Prop := ∃ vl, v = .tuple #[vl, str M.2.1, .bool M.2.2.1] ∧ w'.ownsRow w0.heap.size 53 8 vl (ST.cntL M.1) (ST.encL M.1) ∧ RD g M.2.2.2 w' ∧ Gr w0 w' (some g)
theorem own_l1 {w : World} {base : Nat} {v : Value} {t : ST} (h : w.ownsRow base 53 8 v t.cnt t.enc) : w.ownsRow base 53 8 v (ST.cntL [t]) (ST.encL [t]) := by
 simpa [ST.cntL, ST.encL] using h
theorem own_l0 {w : World} {base : Nat} : w.ownsRow base 53 8 (.slice none 0 0) (ST.cntL []) (ST.encL []) := World.ownsRow_nil _ _ _ _
theorem simple_calls (g : Nat) (s : List UInt8) (p0 : Nat) (b0 u0 ps : Bool) (w0 : World) (hr : RD g ⟨s, p0, b0, u0, ps⟩ w0) (hb : s.length ≤ 1000) (hp : p0 ≤ s.length + 1) (grp : Rd → ST × Rd) (hgle : ∀ r, Sp.Ok r → Sp.Step 3 r (grp r)) (hgrp : GrpOk g s ps grp (p0 + 1)) :
 CR PR 37 [pP g] w0 fun v w' => MadeL g w0 (Sp.simple grp ⟨s, p0, b0, u0, ps⟩) v w' := by
 have hr : RK g s p0 b0 u0 ps _ := hr
 have hG : Gr w0 w0 (some g) := Gr.refl _ _
 refine CR.of (n := 59) [(0, pP g)] Tryz.func37 rfl Tryz.ntmps37 rfl ⟨rfl, trivial⟩<|qr<|pr 3 rfl<|nsq<|qr<|pr 1 rfl<|eN en26 rfl (nx_calls g s p0 b0 u0 ps _ hr hb om) fun v w hv => ?_
 obtain ⟨rfl, hv⟩ := hv
 have hr := hr.grN hv
 have hG := hG.trans (hv.no _)
 have hnx := Sp.nx_lt s (p0)
 refine ns<|rO<|qr<|qq (R.eqI rfl rfl) rfl<|pr 1 rfl<|ns<|cD rfl (fun h1 => ?_) fun h1 => ?_
 ·try norm_cast at h1
  refine rQ ?_
  have hps := Sp.nx_pos (s := s) (p := p0) om
  refine rR<|pr 2 rfl<|fA fo38_1 rfl<|lD sc3 hr rfl rfl<|aK rfl rfl<|pr 1 rfl<|fA fo38_1 rfl<|sT sc3 hr rfl fun w hr hs => ?_
  have hr : RK g s (p0 + 1) b0 u0 ps _ := hr
  have hG := hG.trans hs
  refine nsqr<|pr 1 rfl<|eN en36 rfl (name_calls g s (p0 + 1) b0 u0 ps _ hr hb om) fun v w hv => ?_
  obtain ⟨v2, p2, b2, u2, e2, hp2a, hp2b, hb2, hu2, hl2, rfl, hr, hv⟩ := spl2 (Sp.name_le ⟨s, p0 + 1, b0, u0, ps⟩ okk) hv
  have hG := hG.trans hv
  refine qq (R.build (vs := SelN.cells (⟨3, 0, [], v2, 0, 0, 0⟩) 0) (ps := [(0, .int .i64 3), (3, str v2)]) (fun a ha => by simp [evalC, ha.ev (x := .tmp 17) rfl]) kR) rfl<|eN en19 rfl (SelMade0 (⟨3, 0, [], v2, 0, 0, 0⟩) _) fun v w hv => ?_
  obtain ⟨hO, hv⟩ := hv
  have hO := own_mono hO hG.size
  have hr := hr.grN hv
  have hG := hG.trans (hv.no _)
  refine pr 3 rfl<|nst<|rC<|rH<|At.res3 rfl rfl rfl rfl ?_
  have E : Sp.simple grp ⟨s, p0, b0, u0, ps⟩ = ([ST.node ⟨3, 0, [], v2, 0, 0, 0⟩ []], [], true, ⟨s, p2, b2, u2, ps⟩) := by
   simp [Sp.simple, Rd.adv, SelN.mk1, e2, h1]
  rw [E]
  exact ⟨_, rfl, own_l1 hO, hr, hG⟩
 try norm_cast at h1
 refine qr<|qq (R.eqI rfl rfl) rfl<|pr 1 rfl<|ns<|cD rfl (fun h3 => ?_) fun h3 => ?_
 ·try norm_cast at h3
  refine rQ ?_
  have hps := Sp.nx_pos (s := s) (p := p0) om
  refine rR<|pr 2 rfl<|fA fo38_1 rfl<|lD sc3 hr rfl rfl<|aK rfl rfl<|pr 1 rfl<|fA fo38_1 rfl<|sT sc3 hr rfl fun w hr hs => ?_
  have hr : RK g s (p0 + 1) b0 u0 ps _ := hr
  have hG := hG.trans hs
  refine nsqr<|pr 1 rfl<|eN en43 rfl (hash_calls g s (p0 + 1) b0 u0 ps _ hr hb om) fun v w hv => ?_
  obtain ⟨v4, p4, b4, u4, e4, hp4a, hp4b, hb4, hu4, hl4, rfl, hr, hv⟩ := spl2 (Sp.hash_le ⟨s, p0 + 1, b0, u0, ps⟩ okk) hv
  have hG := hG.trans hv
  refine qq (R.build (vs := SelN.cells (⟨4, 0, [], v4, 0, 0, 0⟩) 0) (ps := [(0, .int .i64 4), (3, str v4)]) (fun a ha => by simp [evalC, ha.ev (x := .tmp 30) rfl]) kR) rfl<|eN en19 rfl (SelMade0 (⟨4, 0, [], v4, 0, 0, 0⟩) _) fun v w hv => ?_
  obtain ⟨hO, hv⟩ := hv
  have hO := own_mono hO hG.size
  have hr := hr.grN hv
  have hG := hG.trans (hv.no _)
  refine pr 3 rfl<|nst<|rC<|rH<|At.res3 rfl rfl rfl rfl ?_
  have E : Sp.simple grp ⟨s, p0, b0, u0, ps⟩ = ([ST.node ⟨4, 0, [], v4, 0, 0, 0⟩ []], [], true, ⟨s, p4, b4, u4, ps⟩) := by
   simp [Sp.simple, Rd.adv, SelN.mk1, e4, h1, h3]
  rw [E]
  exact ⟨_, rfl, own_l1 hO, hr, hG⟩
 try norm_cast at h3
 refine qr<|qq (R.eqI rfl rfl) rfl<|pr 1 rfl<|ns<|cD rfl (fun h5 => ?_) fun h5 => ?_
 ·try norm_cast at h5
  refine rQ ?_
  have hps := Sp.nx_pos (s := s) (p := p0) om
  refine rR<|pr 2 rfl<|fA fo38_1 rfl<|lD sc3 hr rfl rfl<|aK rfl rfl<|pr 1 rfl<|fA fo38_1 rfl<|sT sc3 hr rfl fun w hr hs => ?_
  have hr : RK g s (p0 + 1) b0 u0 ps _ := hr
  have hG := hG.trans hs
  refine nsqr<|pr 1 rfl<|eN en44 rfl (attribute_calls g s (p0 + 1) b0 u0 ps _ hr hb om) fun v w hv => ?_
  obtain ⟨hO, hro, hv⟩ := hv
  obtain ⟨t6, p6, b6, u6, e6, hp6a, hp6b, hb6, hu6⟩ := Sp.Le.split (f := Sp.attrib ⟨s, p0 + 1, b0, u0, ps⟩) (Sp.attrib_le ⟨s, p0 + 1, b0, u0, ps⟩ okk).1
  rw [e6] at hO hro
  have hO : World.ownsRow w _ 53 8 v t6.cnt t6.enc := hO
  have hO := own_mono hO hG.size
  clear hr
  have hr : RD g ⟨s, p6, b6, u6, ps⟩ w := hro
  clear hro
  have hG := hG.trans hv
  have hr : RK g s p6 b6 u6 ps _ := hr
  refine pr 3 rfl<|nst<|rC<|rH<|At.res3 rfl rfl rfl rfl ?_
  have E : Sp.simple grp ⟨s, p0, b0, u0, ps⟩ = ([t6], [], true, ⟨s, p6, b6, u6, ps⟩) := by
   simp [Sp.simple, Rd.adv, SelN.mk1, e6, h1, h3, h5]
  rw [E]
  exact ⟨_, rfl, own_l1 hO, hr, hG⟩
 try norm_cast at h5
 refine qr<|qq (R.eqI rfl rfl) rfl<|pr 1 rfl<|ns<|cD rfl (fun h7 => ?_) fun h7 => ?_
 ·try norm_cast at h7
  refine rQ ?_
  have hps := Sp.nx_pos (s := s) (p := p0) om
  refine rR<|pr 2 rfl<|fA fo38_1 rfl<|lD sc3 hr rfl rfl<|aK rfl rfl<|pr 1 rfl<|fA fo38_1 rfl<|sT sc3 hr rfl fun w hr hs => ?_
  have hr : RK g s (p0 + 1) b0 u0 ps _ := hr
  have hG := hG.trans hs
  refine nsq<|qr<|pr 1 rfl<|eN en18 rfl (taken_calls g ⟨s, p0 + 1, b0, u0, ps⟩ _ hr hb sO [58] dC) fun v w hv => ?_
  obtain ⟨v8, p8, b8, u8, e8, hp8a, hp8b, hb8, hu8, rfl, hr, hv⟩ := spl (Sp.taken_le ⟨s, p0 + 1, b0, u0, ps⟩ [58] okk) hv
  have hG := hG.trans hv
  refine ns<|cC rfl (fun h9 => ?_) (fun h9 => ?_)
  ·try simp only [Bool.not_eq_true', Bool.not_eq_false'] at h9
   subst h9
   have hr : RK g s p8 b8 u8 ps _ := hr
   refine qr<|pr 1 rfl<|eN en45 rfl (element_calls g s p8 b8 u8 ps _ hr hb om) fun v w hv => ?_
   obtain ⟨v10, p10, b10, u10, e10, hp10a, hp10b, hb10, hu10, hl10, rfl, hr, hv⟩ := spl2 (Sp.element_le ⟨s, p8, b8, u8, ps⟩ okk) hv
   have hG := hG.trans hv
   refine pr 3 rfl<|nsth<|rC<|rH<|At.res3 rfl rfl rfl rfl ?_
   have E : Sp.simple grp ⟨s, p0, b0, u0, ps⟩ = ([], v10, true, ⟨s, p10, b10, u10, ps⟩) := by
    simp [Sp.simple, Rd.adv, SelN.mk1, e8, e10, h1, h3, h5, h7]
   rw [E]
   exact ⟨_, rfl, own_l0, hr, hG⟩
  try simp only [Bool.not_eq_true', Bool.not_eq_false'] at h9
  subst h9
  have hr : RK g s p8 b8 u8 ps _ := hr
  refine ksqr<|pr 1 rfl<|eN en46 rfl (pseudo_calls g s p8 b8 u8 ps _ hr hb om grp hgle (hgrp.mono om)) fun v w hv => ?_
  obtain ⟨hO, hro, hv⟩ := hv
  obtain ⟨t11, p11, b11, u11, e11, hp11a, hp11b, hb11, hu11⟩ := Sp.Le.split (f := Sp.pseudo grp ⟨s, p8, b8, u8, ps⟩) (Sp.pseudo_le grp hgle ⟨s, p8, b8, u8, ps⟩ okk).1
  rw [e11] at hO hro
  have hO : World.ownsRow w _ 53 8 v t11.cnt t11.enc := hO
  have hO := own_mono hO hG.size
  clear hr
  have hr : RD g ⟨s, p11, b11, u11, ps⟩ w := hro
  clear hro
  have hG := hG.trans hv
  have hr : RK g s p11 b11 u11 ps _ := hr
  refine pr 3 rfl<|nst<|rC<|rH<|At.res3 rfl rfl rfl rfl ?_
  have E : Sp.simple grp ⟨s, p0, b0, u0, ps⟩ = ([t11], [], true, ⟨s, p11, b11, u11, ps⟩) := by
   simp [Sp.simple, Rd.adv, SelN.mk1, e8, e11, h1, h3, h5, h7]
  rw [E]
  exact ⟨_, rfl, own_l1 hO, hr, hG⟩
 try norm_cast at h7
 refine rK<|bS<|qr<|pr 3 rfl<|nst<|At.res3 rfl rfl rfl rfl ?_
 have E : Sp.simple grp ⟨s, p0, b0, u0, ps⟩ = ([], [], false, ⟨s, p0, b0, u0, ps⟩) := by
  simp [Sp.simple, Rd.adv, SelN.mk1, h1, h3, h5, h7]
 rw [E]
 exact ⟨_, rfl, own_l0, hr, hG⟩
theorem own_apart {w : World} {a b e1 e2 s1 s2 n m : Nat} {v u : Value} {xs ys : List Value} (h1 : w.ownsRow a e1 s1 v n xs) (h2 : w.ownsRow b e2 s2 u m ys) (he : e1 ≠ e2) : u.ownBlock = none ∨ u.ownBlock ≠ v.ownBlock := by
 rcases h2.2 with ⟨rfl, -⟩ | ⟨k2, c2, cur2, rfl, -, hk2, -⟩
 ·exact .inl rfl
 right
 intro e
 rcases h1.2 with ⟨rfl, -⟩ | ⟨k1, c1, cur1, rfl, -, hk1, -⟩
 ·simp [Value.ownBlock] at e
 simp only [Value.ownBlock, Option.some.injEq] at e
 rw [e, hk1] at hk2
 simp at hk2
 exact he hk2.2
theorem own_oneCell {w : World} {a e1 s1 n : Nat} {v : Value} {xs : List Value} (h1 : w.ownsRow a e1 s1 v n xs) : v.oneCell' = true := by
 rcases h1.2 with ⟨rfl, -⟩ | ⟨k1, c1, cur1, rfl, -⟩ <;> rfl
def KidsOk (base : Nat) (w : World) (vl : Value) (vs : List Value) (tss : List (List ST)) : Prop :=
 vs.length = tss.length ∧ w.ownsRow base 22 1 vl tss.length vs ∧ ∀ p ∈ vs.zip tss, w.ownsRow base 53 8 p.1 (ST.cntL p.2) (ST.encL p.2)
theorem KidsOk.nil (base : Nat) (w : World) : KidsOk base w (.slice none 0 0) [] [] := ⟨rfl, World.ownsRow_nil _ _ _ _, fun p h => by simp at h⟩
theorem KidsOk.kept {base : Nat} {w w' : World} {vl : Value} {vs : List Value} {tss : List (List ST)} {r : Option Nat} (h : KidsOk base w vl vs tss) (hg : Gr w w' r) (hv : vl.ownBlock = none ∨ vl.ownBlock ≠ r) (hp : ∀ p ∈ vs.zip tss, p.1.ownBlock = none ∨ p.1.ownBlock ≠ r) : KidsOk base w' vl vs tss :=
 ⟨h.1, h.2.1.kept hg hv, fun p hm => (h.2.2 p hm).kept hg (hp p hm)⟩
theorem KidsOk.grN {base : Nat} {w w' : World} {vl : Value} {vs : List Value} {tss : List (List ST)} (h : KidsOk base w vl vs tss) (hg : Gr w w' none) : KidsOk base w' vl vs tss :=
 h.kept hg (by cases vl.ownBlock <;> simp) (fun p _ => by cases p.1.ownBlock <;> simp)
theorem KidsOk.gr {base : Nat} {w w' : World} {vl : Value} {vs : List Value} {tss : List (List ST)} {r : Option Nat} (h : KidsOk base w vl vs tss) (hg : Gr w w' r) (hn : ∀ b, r = some b → b < base) : KidsOk base w' vl vs tss := by
 have key : ∀ {e size : Nat} {v : Value} {n : Nat} {xs : List Value}, w.ownsRow base e size v n xs → v.ownBlock = none ∨ v.ownBlock ≠ r := by
  intro e size v n xs ho
  cases r with
  | none => cases v.ownBlock <;> simp
  | some b => exact .inr (own_ne ho (hn b rfl)).symm
 exact h.kept hg (key h.2.1) (fun p hm => key (h.2.2 p hm))
theorem ST.cntL_flatten_snoc (t : List ST) (r : List (List ST)) : ST.cntL (r ++ [t]).flatten = ST.cntL r.flatten + ST.cntL t := by
 rw [List.flatten_append, ST.cntL_append, List.flatten_cons, List.flatten_nil, List.append_nil]
theorem flatten_snoc (t : List ST) (r : List (List ST)) : (r ++ [t]).flatten = r.flatten ++ t := by
 rw [List.flatten_append, List.flatten_cons, List.flatten_nil, List.append_nil]
theorem sumN_zip : ∀ (vs : List Value) (tss : List (List ST)), vs.length = tss.length → sumN ((vs.zip tss).map fun p => (p.1, ST.cntL p.2, ST.encL p.2)) = ST.cntL tss.flatten ∧ sumX ((vs.zip tss).map fun p => (p.1, ST.cntL p.2, ST.encL p.2)) = ST.encL tss.flatten
 | [], [], _ => ⟨rfl, rfl⟩
 | [], _ :: _, h => by simp at h
 | _ :: _, [], h => by simp at h
 | v :: vs, t :: tss, h => by
  obtain ⟨h1, h2⟩ := sumN_zip vs tss (by simpa using h)
  simp only [List.zip_cons_cons, List.map_cons, sumN, sumX, h1, h2]
  rw [List.flatten_cons, ST.cntL_append, ST.encL_append]
  exact ⟨rfl, rfl⟩
theorem SelMadeK (X : SelN) (base : Nat) (vl : Value) (vs : List Value) (tss : List (List ST)) (w0 : World) (hk : KidsOk base w0 vl vs tss) (hs : ST.cntL tss.flatten ≤ 90000) (hn : tss.length ≤ 90000) : CR PR 19 [.agg (X.cells 0).toArray, vl] w0 fun v w' => w'.ownsRow w0.heap.size 53 8 v (ST.node X tss.flatten).cnt (ST.node X tss.flatten).enc ∧ Gr w0 w' none := by
 obtain ⟨hl, ho, hp⟩ := hk
 obtain ⟨hz1, hz2⟩ := sumN_zip vs tss hl
 have hlen : ((vs.zip tss).map fun p => (p.1, ST.cntL p.2, ST.encL p.2)).length = tss.length := by simp [hl]
 have hfin : ∀ {v : Value} {w' : World}, w'.ownsRow w0.heap.size 53 8 v (1 + sumN ((vs.zip tss).map fun p => (p.1, ST.cntL p.2, ST.encL p.2))) (X.cells (1 + sumN ((vs.zip tss).map fun p => (p.1, ST.cntL p.2, ST.encL p.2))) ++ sumX ((vs.zip tss).map fun p => (p.1, ST.cntL p.2, ST.encL p.2))) → w'.ownsRow w0.heap.size 53 8 v (ST.node X tss.flatten).cnt (ST.node X tss.flatten).enc := by
  intro v w' h
  rw [hz1, hz2] at h
  rw [ST.cnt, ST.enc]
  exact h
 have hone : ∀ p ∈ (vs.zip tss).map (fun p => ((p.1, ST.cntL p.2, ST.encL p.2) : Piece)), ∀ u ∈ p.2.2, u.oneCell' = true := by
  intro p hm
  obtain ⟨x, -, rfl⟩ := List.mem_map.1 hm
  exact ST.encL_one _
 have hrow : ∀ p ∈ (vs.zip tss).map (fun p => ((p.1, ST.cntL p.2, ST.encL p.2) : Piece)), w0.ownsRow 0 53 8 p.1 p.2.1 p.2.2 := by
  intro p hm
  obtain ⟨x, hx, rfl⟩ := List.mem_map.1 hm
  exact own_mono (hp x hx) (Nat.zero_le _)
 rcases ho.2 with ⟨rfl, h0⟩ | ⟨kb, cap, cur, rfl, -, -, -, -, -, -⟩
 ·have ht : tss = [] := List.length_eq_zero_iff.1 h0
  subst ht
  exact SelMade0 X w0
 have hc := ho.cells (g := kb) rfl
 have := SelMade_calls X 0 (some ⟨kb, 0, none⟩) cap ((vs.zip tss).map fun p => (p.1, ST.cntL p.2, ST.encL p.2)) w0 (fun j p h => by
  refine ⟨kb, rfl, ?_⟩
  rw [List.getElem?_map, Option.map_eq_some_iff] at h
  obtain ⟨x, hx, rfl⟩ := h
  have hv : vs[j]? = some x.1 := (List.getElem?_zip_eq_some.1 hx).1
  have := hc j x.1 hv
  rwa [addr_add, Nat.zero_add] at this) hrow hone (by rw [hlen]; omega) (by rw [hz1]; omega)
 rw [hlen] at this
 exact this.mono fun v w' h => ⟨hfin h.1, h.2⟩
section
variable {P : Program} {Q : Post} {ops : Array Oper} {rest : List Oper} {n : Nat} {l : Fr} {w : World} {d : Nat} {ty : TypeId} {pos : String} {af : Array Edge} {x y : Operand} {t : TypeId}
theorem W.appendKid {base kb c : Nat} {vl v : Value} {vs : List Value} {tss : List (List ST)} {ts : List ST} (hE : elInfo P t = some (22, 1, 24)) (hk : KidsOk base w vl vs tss) (hs : ev l x = some vl) (hy : ev l y = some (.slice (some ⟨kb, 0, none⟩) 1 c)) (hK : Blk w kb 22 [v]) (hv : w.ownsRow base 53 8 v (ST.cntL ts) (ST.encL ts)) (hlen : tss.length ≤ 90000) (hbase : base ≤ w.heap.size) (hdn : Nat.blt d n = true)
 (h : ∀ v' w', KidsOk base w' v' (vs ++ [v]) (tss ++ [ts]) → Gr w w' vl.ownBlock → W P ops Q n rest ((d, v') :: l) w') : W P ops Q n (⟨some d, .call ⟨.builtin .append, #[x, y], #[t, t]⟩, ty, pos, af, none⟩ :: rest) l w := by
 obtain ⟨hl, ho, hp⟩ := hk
 refine W.append hE hs ho hy (news := [v]) rfl (fun j u hj => ?_) (fun u hu => ?_) (by simp only [maxLen]; omega) om hbase hdn fun v' w' h2 h3 => ?_
 ·cases j with
  | zero => simp at hj; subst hj; exact hK.cell rfl
  | succ j => simp at hj
 ·simp at hu; subst hu; exact own_oneCell hv
 refine h v' w' ⟨by simp [hl], by rw [List.length_append]; exact h2, ?_⟩ h3
 intro p hm
 rw [List.zip_append hl, List.mem_append] at hm
 rcases hm with hm | hm
 ·exact (hp p hm).kept h3 (own_apart ho (hp p hm) dC)
 simp at hm
 subst hm
 exact hv.kept h3 (own_apart ho hv dC)
end
namespace Sp
section
variable (grp : Rd → ST × Rd) (hgrp : ∀ r, Ok r → Step 3 r (grp r))
include hgrp in
theorem simple_adv (r : Rd) (h : Ok r) (hi : (simple grp r).2.2.1 = true) : r.pos + 1 ≤ (simple grp r).2.2.2.pos := by
 revert hi
 unfold simple
 dsimp only
 by_cases h0 : next r = 0
 ·rw [h0]
  simp only [show ¬ (0 : Nat) = 46 from by decide, show ¬ (0 : Nat) = 35 from by decide, show ¬ (0 : Nat) = 91 from by decide, show ¬ (0 : Nat) = 58 from by decide, if_false]
  intro h; cases h
 have hp := next_pos h0
 have a0 := le_step (r := r) om
 have e0 : r.pos + 1 ≤ (r.adv 1).pos := Nat.le_refl _
 split
 ·exact fun _ => Nat.le_trans e0 (name_le (r.adv 1) a0.ok).1.pos
 split
 ·exact fun _ => Nat.le_trans e0 (hash_le (r.adv 1) a0.ok).1.pos
 split
 ·exact fun _ => Nat.le_trans e0 (attrib_le (r.adv 1) a0.ok).1.pos
 split
 ·have a1 := taken_le (r.adv 1) [58] a0.ok
  generalize taken (r.adv 1) [58] = x1 at *
  obtain ⟨e, r1⟩ := x1
  dsimp only at *
  have := a1.pos
  split
  ·exact fun _ => Nat.le_trans (Nat.le_trans e0 this) (element_le r1 a1.ok).1.pos
  exact fun _ => Nat.le_trans (Nat.le_trans e0 this) (pseudo_le grp hgrp r1 a1.ok).1.pos
 intro h; cases h
include hgrp in
theorem simple_split (s : List UInt8) (p : Nat) (b u ps : Bool) (h : p ≤ s.length + 1) : ∃ ts wh is p' b' u', simple grp ⟨s, p, b, u, ps⟩ = (ts, wh, is, ⟨s, p', b', u', ps⟩) ∧ p ≤ p' ∧ p' ≤ s.length + 1 ∧ ST.cntL ts ≤ 4 * (p' - p) ∧ (is = true → p + 1 ≤ p') := by
 have h1 := simple_le grp hgrp ⟨s, p, b, u, ps⟩ h
 have h2 := simple_adv grp hgrp ⟨s, p, b, u, ps⟩ h
 generalize simple grp ⟨s, p, b, u, ps⟩ = x at *
 obtain ⟨ts, wh, is, r⟩ := x
 obtain ⟨h1, h3, -⟩ := h1
 obtain ⟨p', b', u', e, h4, h5, -⟩ := h1.is
 simp only at e
 subst e
 exact ⟨ts, wh, is, p', b', u', rfl, h4, h5, h3, h2⟩
end
section
variable {grp : Rd → ST × Rd} {pe : Bool} {r r1 r2 r' : Rd} {l ts : List ST} {v wh nm : List UInt8} {mn m : Nat}
def compTail : (ST × Rd) ⊕ (List ST × List UInt8 × Nat × Rd) → ST × Rd
 | .inl x => x
 | .inr (l, v, many, r) => if many = 0 then fail (if next r = 124 ∨ next r = 42 then r.unsure else r) else (ST.node { SelN.mk1 21 with val := v } l, if next r = 124 ∨ next r = 42 then r.unsure else r)
theorem compTail_eq (y : (ST × Rd) ⊕ (List ST × List UInt8 × Nat × Rd)) : (match y with
 | .inl x => x
 | .inr (l, v, many, r) =>
  let r := if next r = 124 ∨ next r = 42 then r.unsure else r
  if many = 0 then fail r else (ST.node { SelN.mk1 21 with val := v } l, r)) = compTail y := by
 cases y with
 | inl x => rfl
 | inr x => obtain ⟨l, v, many, r⟩ := x; rfl
theorem compound_1 (e : taken r [42] = (true, r1)) : compound grp pe r = compTail (compoundGo grp pe (r1.s.length + 1) [] [] 1 r1) := by
 unfold compound; simp only [e, if_true]; exact compTail_eq _
theorem compound_2 (e : taken r [42] = (false, r1)) (e2 : nameFollows r1 = (true, r2)) (e3 : name r2 = (nm, r')) : compound grp pe r = compTail (compoundGo grp pe (r'.s.length + 1) [ST.node ⟨2, 0, lower nm, [], 0, 0, 0⟩ []] [] 1 r') := by
 unfold compound; simp only [e, e2, e3, if_true, Bool.false_eq_true, if_false]; exact compTail_eq _
theorem compound_3 (e : taken r [42] = (false, r1)) (e2 : nameFollows r1 = (false, r2)) : compound grp pe r = compTail (compoundGo grp pe (r2.s.length + 1) [] [] 0 r2) := by
 unfold compound; simp only [e, e2, Bool.false_eq_true, if_false]; exact compTail_eq _
theorem go_stop (h : ¬ (r.bad = false ∧ r.pos < r.s.length)) : compoundGo grp pe m l v mn r = .inr (l, v, mn, r) := by
 cases m with
 | zero => rfl
 | succ m => rw [compoundGo, if_neg h]
theorem go_no (h : r.bad = false ∧ r.pos < r.s.length) (e : simple grp r = (ts, wh, false, r')) : compoundGo grp pe (m + 1) l v mn r = .inr (l, v, mn, r') := by
 rw [compoundGo, if_pos h]; simp only [e, if_true]
theorem go_pe (h : r.bad = false ∧ r.pos < r.s.length) (e : simple grp r = (ts, wh, true, r')) (hw : ¬ wh = []) : compoundGo grp false (m + 1) l v mn r = .inl (fail (r'.orUns r'.ps)) := by
 rw [compoundGo, if_pos h]; simp only [e, if_true, Bool.true_eq_false, if_false]; rw [if_pos hw]
theorem go_two (h : r.bad = false ∧ r.pos < r.s.length) (e : simple grp r = (ts, wh, true, r')) (hw : ¬ wh = []) (hv : ¬ v = []) : compoundGo grp true (m + 1) l v mn r = .inl (fail r'.unsure) := by
 rw [compoundGo, if_pos h]; simp only [e, if_true, Bool.true_eq_false, if_false]; rw [if_pos hw, if_pos hv]
theorem go_el (h : r.bad = false ∧ r.pos < r.s.length) (e : simple grp r = (ts, wh, true, r')) (hw : ¬ wh = []) (hv : v = []) : compoundGo grp true (m + 1) l v mn r = compoundGo grp true m l wh (mn + 1) r' := by
 subst hv
 rw [compoundGo, if_pos h]; simp only [e, if_true, Bool.true_eq_false, if_false]; rw [if_pos hw]; simp
theorem go_one (h : r.bad = false ∧ r.pos < r.s.length) (e : simple grp r = (ts, wh, true, r')) (hw : wh = []) : compoundGo grp pe (m + 1) l v mn r = compoundGo grp pe m (l ++ ts) v (mn + 1) (if v = [] then r' else r'.unsure) := by
 subst hw
 rw [compoundGo, if_pos h]; simp only [e, if_true, Bool.true_eq_false, if_false]; simp
end
end Sp
def OwnK (base : Nat) (w : World) (v : Value) (ts : List ST) : Prop := w.ownsRow base 53 8 v (ST.cntL ts) (ST.encL ts)
theorem OwnK.grN {base : Nat} {w w' : World} {v : Value} {ts : List ST} (h : OwnK base w v ts) (hg : Gr w w' none) : OwnK base w' v ts := own_grN h hg
theorem OwnK.gr {base : Nat} {w w' : World} {v : Value} {ts : List ST} {r : Option Nat} (h : OwnK base w v ts) (hg : Gr w w' r) (hn : ∀ b, r = some b → b < base) : OwnK base w' v ts := by
 cases r with
 | none => exact own_grN h hg
 | some b => exact own_gr h hg (hn b rfl)
theorem compound_calls (g : Nat) (s : List UInt8) (p0 : Nat) (b0 u0 ps : Bool) (w0 : World) (hr : RD g ⟨s, p0, b0, u0, ps⟩ w0) (hb : s.length ≤ 1000) (hp : p0 ≤ s.length + 1) (grp : Rd → ST × Rd) (hgle : ∀ r, Sp.Ok r → Sp.Step 3 r (grp r)) (hgrp : GrpOk g s ps grp (p0 + 1)) (pe : Bool) :
 CR PR 25 [pP g, .bool pe] w0 fun v w' => Made g w0 (Sp.compound grp pe ⟨s, p0, b0, u0, ps⟩) v w' := by
 have hr : RK g s p0 b0 u0 ps _ := hr
 have hG : Gr w0 w0 (some g) := Gr.refl _ _
 refine CR.of (n := 115) [(0, pP g), (1, .bool pe)] Tryz.func25 rfl Tryz.ntmps25 rfl ⟨rfl, rfl, trivial⟩<|qr<|pr 1 rfl<|nsqr<|qq (R.build (vs := (SelN.mk1 21).cells 0) (ps := [(0, .int .i64 21)]) (fun a ha => by simp [evalC]) kR) rfl ?_
 have hsz := hG.size
 have hgl := hr.lt
 refine W.alloc z53 rfl fun w q hqz hX hv => ?_
 have hr := hr.grN hv
 have hG := hG.trans (hv.no _)
 have hgq : g < q := by omega
 have hqw : w0.heap.size ≤ q := by omega
 refine W.storeAll ag53 rfl rfl hX rfl rfl (SelN.cells_one _ _) fun w hX hs => ?_
 have hr := hr.gr hs sM
 have hG := hG.fresh hs hqw
 have hX : Blk w q 53 (SelN.cells ⟨21, 0, [], [], 0, 0, 0⟩ 0) := hX
 refine nsqr ?_
 have hK : KidsOk (q + 1) w (.slice none 0 0) [] [] := KidsOk.nil _ _
 refine pr 1 rfl<|nsqr<|pr 1 rfl<|ns<|C.cut (fun l w' => ∃ (kv : Value) (vs : List Value) (tss : List (List ST)) (mn p : Nat) (b u : Bool), l = [(0, pP g), (1, .bool pe), (5, pP q), (6, kv), (7, .int .i64 ((mn : Nat) : Int))] ∧ Blk w' q 53 (SelN.cells ⟨21, 0, [], [], 0, 0, 0⟩ 0) ∧ KidsOk (q + 1) w' kv vs tss ∧ RD g ⟨s, p, b, u, ps⟩ w' ∧ Gr w0 w' (some g) ∧ Sp.compound grp pe ⟨s, p0, b0, u0, ps⟩ = Sp.compTail (Sp.compoundGo grp pe (s.length + 1) tss.flatten [] mn ⟨s, p, b, u, ps⟩) ∧ p0 ≤ p ∧ p ≤ s.length + 1 ∧ ST.cntL tss.flatten ≤ 1 ∧ tss.length ≤ 1 ∧ mn ≤ 1) ?_ ?_
 ·refine rO<|qr<|pr 1 rfl<|eN en18 rfl (taken_calls g ⟨s, p0, b0, u0, ps⟩ _ hr hb sO [42] dC) fun v w hv => ?_
  obtain ⟨v1, p1, b1, u1, e1, hp1a, hp1b, hb1, hu1, rfl, hr, hv⟩ := spl (Sp.taken_le ⟨s, p0, b0, u0, ps⟩ [42] okk) hv
  have hG := hG.trans hv
  have hX := hX.gr hv au
  have hK := hK.gr hv au
  refine pr 1 rfl<|ns<|cC rfl (fun h2 => ?_) (fun h2 => ?_)
  ·try simp only [Bool.not_eq_true', Bool.not_eq_false'] at h2
   subst h2
   have hr : RK g s p1 b1 u1 ps _ := hr
   refine rR<|pr 1 rfl<|qq (R.addTo _ rfl rfl (IntWalk.i64_in _ om)) rfl<|pr 1 rfl<|nB ?_
   exact cT [(0, pP g), (1, .bool pe), (5, pP q), (6, .slice none 0 0), (7, .int .i64 ((1 : Nat) : Int))] rfl ⟨.slice none 0 0, _, [], 1, _, _, _, rfl, hX, hK, hr, hG, Sp.compound_1 e1, om, om, by simp [ST.cntL, ST.cnt], by simp, om⟩
  try simp only [Bool.not_eq_true', Bool.not_eq_false'] at h2
  subst h2
  have hr : RK g s p1 b1 u1 ps _ := hr
  refine qr<|pr 1 rfl<|eN en34 rfl (nameFollows_calls g ⟨s, p1, b1, u1, ps⟩ _ hr hb sO) fun v w hv => ?_
  obtain ⟨v3, p3, b3, u3, e3, hp3a, hp3b, hb3, hu3, rfl, hr, hv⟩ := spl (Sp.nameFollows_le ⟨s, p1, b1, u1, ps⟩ okk) hv
  have hG := hG.trans hv
  have hX := hX.gr hv au
  have hK := hK.gr hv au
  refine pr 1 rfl<|ns<|cC rfl (fun h4 => ?_) (fun h4 => ?_)
  ·try simp only [Bool.not_eq_true', Bool.not_eq_false'] at h4
   subst h4
   have hr : RK g s p3 b3 u3 ps _ := hr
   refine qr<|pr 2 rfl<|eN en36 rfl (name_calls g s p3 b3 u3 ps _ hr hb om) fun v w hv => ?_
   obtain ⟨v5, p5, b5, u5, e5, hp5a, hp5b, hb5, hu5, hl5, rfl, hr, hv⟩ := spl2 (Sp.name_le ⟨s, p3, b3, u3, ps⟩ okk) hv
   have hG := hG.trans hv
   have hX := hX.gr hv au
   have hK := hK.gr hv au
   refine eN en35 rfl (lower_calls _ _ om) fun v w hv => ?_
   obtain ⟨rfl, hv⟩ := hv
   have hr := hr.grN hv
   have hG := hG.trans (hv.no _)
   have hX := hX.gr hv au
   have hK := hK.gr hv au
   refine qq (R.build (vs := SelN.cells ⟨2, 0, (Sp.lower v5), [], 0, 0, 0⟩ 0) (ps := [(0, .int .i64 2), (2, str (Sp.lower v5))]) (fun a ha => by simp [evalC, ha.ev (x := .tmp 24) rfl]) kR) rfl<|eN en19 rfl (SelMade0 ⟨2, 0, (Sp.lower v5), [], 0, 0, 0⟩ _) fun v w hv => ?_
   obtain ⟨hO, hv⟩ := hv
   have hOs : OwnK (q + 1) w v [ST.node ⟨2, 0, (Sp.lower v5), [], 0, 0, 0⟩ []] := own_l1 (own_mono hO (show q + 1 ≤ _ from hX.lt))
   have hr := hr.grN hv
   have hG := hG.trans (hv.no _)
   have hX := hX.gr hv au
   have hK := hK.gr hv au
   refine W.buildSlice (ps := [(0, _)]) (fun a ha => by simp [ha.ev (x := .tmp 26) rfl]) (row28 _ (own_oneCell hOs)) rfl fun w kb6 hkz hB hv => ?_
   have hr := hr.grN hv
   have hX := hX.grN hv
   have hK := hK.grN hv
   have hOs := hOs.grN hv
   have hG := hG.trans (hv.no _)
   refine W.appendKid (ts := [ST.node ⟨2, 0, Sp.lower v5, [], 0, 0, 0⟩ []]) el28 hK rfl rfl hB hOs (by first | omega | (simp; done)) (by have := hX.lt; omega) rfl fun kv7 w hK2 hv => ?_
   have hG := Gr.own hG hv (own_mono hK.2.1 om)
   have hr := hr.gr hv (own_ne hK.2.1 om)
   have hX := hX.gr hv (own_ne hK.2.1 om)
   clear hK
   have hK := hK2
   clear hK2
   refine pr 1 rfl<|nsr<|pr 1 rfl<|qq (R.addTo _ rfl rfl (IntWalk.i64_in _ om)) rfl<|pr 1 rfl<|nB ?_
   exact cT [(0, pP g), (1, .bool pe), (5, pP q), (6, kv7), (7, .int .i64 ((1 : Nat) : Int))] rfl ⟨kv7, _, [[ST.node ⟨2, 0, Sp.lower v5, [], 0, 0, 0⟩ []]], 1, _, _, _, rfl, hX, hK, hr, hG, Sp.compound_2 e1 e3 e5, om, om, by simp [ST.cntL, ST.cnt], by simp, om⟩
  try simp only [Bool.not_eq_true', Bool.not_eq_false'] at h4
  subst h4
  have hr : RK g s p3 b3 u3 ps _ := hr
  refine rK<|rB ?_
  exact cT [(0, pP g), (1, .bool pe), (5, pP q), (6, .slice none 0 0), (7, .int .i64 ((0 : Nat) : Int))] rfl ⟨.slice none 0 0, _, [], 0, _, _, _, rfl, hX, hK, hr, hG, Sp.compound_3 e1 e3, om, om, by simp [ST.cntL, ST.cnt], by simp, om⟩
 rintro l w ⟨kv, vs, tss, mn, p, b, u, rfl, hX, hK, hr, hG, hE, hp1, hp2, hct, hln, hmn⟩
 have hr : RK g s p b u ps _ := hr
 refine C.cut (fun l w' => ∃ (kv : Value) (vs : List Value) (tss : List (List ST)) (vv : List UInt8) (mn p : Nat) (b u : Bool), l = [(0, pP g), (1, .bool pe), (5, pP q), (6, kv), (7, .int .i64 ((mn : Nat) : Int))] ∧ Blk w' q 53 (SelN.cells ⟨21, 0, [], vv, 0, 0, 0⟩ 0) ∧ KidsOk (q + 1) w' kv vs tss ∧ RD g ⟨s, p, b, u, ps⟩ w' ∧ Gr w0 w' (some g) ∧ Sp.compound grp pe ⟨s, p0, b0, u0, ps⟩ = Sp.compTail (.inr (tss.flatten, vv, mn, ⟨s, p, b, u, ps⟩)) ∧ p0 ≤ p ∧ p ≤ s.length + 1 ∧ ST.cntL tss.flatten ≤ 1 + 4 * (p - p0) ∧ tss.length ≤ s.length + 2 ∧ mn ≤ s.length + 2) ?_ ?_
 ·refine rO<|sB [(0, pP g), (1, .bool pe), (5, pP q), (6, kv), (7, .int .i64 ((mn : Nat) : Int))] rfl<|C.loop (fun m l w' => ∃ (kv : Value) (vs : List Value) (tss : List (List ST)) (vv : List UInt8) (mn p : Nat) (b u : Bool), l = [(0, pP g), (1, .bool pe), (5, pP q), (6, kv), (7, .int .i64 ((mn : Nat) : Int))] ∧ Blk w' q 53 (SelN.cells ⟨21, 0, [], vv, 0, 0, 0⟩ 0) ∧ KidsOk (q + 1) w' kv vs tss ∧ RD g ⟨s, p, b, u, ps⟩ w' ∧ Gr w0 w' (some g) ∧ Sp.compound grp pe ⟨s, p0, b0, u0, ps⟩ = Sp.compTail (Sp.compoundGo grp pe m tss.flatten vv mn ⟨s, p, b, u, ps⟩) ∧ (b = true ∨ s.length < p + m) ∧ p0 ≤ p ∧ p ≤ s.length + 1 ∧ ST.cntL tss.flatten ≤ 1 + 4 * (p - p0) ∧ tss.length + m ≤ s.length + 2 ∧ mn + m ≤ s.length + 2) (s.length + 1) (⟨kv, vs, tss, [], mn, p, b, u, rfl, hX, hK, hr, hG, hE, Or.inr om, om, om, om, om, om⟩) ?_
  rintro m l w ⟨kv, vs, tss, vv, mn, p, b, u, rfl, hX, hK, hr, hG, hE, hm, hp1, hp2, hct, hln, hmn⟩
  have hr : RK g s p b u ps _ := hr
  refine rQ<|rQ<|dR<|prq 2 rfl<|fQ fo38_2 rfl<|Wq.splitB (fun w hw => R.load sc4 rfl (hr.grN hw) rfl) rfl rfl rfl (fun h8 => ?_) (fun h8 => ?_)
  ·subst h8
   have hr : RK g s p true u ps _ := hr
   refine prq 13 rfl<|Wq.nil fun w hw => ?_
   have hr := hr.grN hw
   have hX := hX.grN hw
   have hK := hK.grN hw
   have hG := hG.trans (hw.no _)
   refine rS<|cF rfl<|rE<|rX<|rX<|rY ?_
   rw [Sp.go_stop (by simp only; intro hq; first | (have := hq.2; omega) | (exact absurd hq.1 dC))] at hE
   exact cT [(0, pP g), (1, .bool pe), (5, pP q), (6, kv), (7, .int .i64 ((mn : Nat) : Int))] rfl ⟨kv, _, tss, vv, mn, _, _, _, rfl, hX, hK, hr, hG, hE, om, om, om, om, om⟩
  subst h8
  have hr : RK g s p false u ps _ := hr
  refine prq 4 rfl<|gw (fun w hw => R.fieldAddr fo38_1 rfl) rfl<|gw (fun w hw => R.load sc3 rfl (hr.grN hw) rfl) rfl<|prq 2 rfl<|gw (fun w hw => R.fieldAddr fo38_0 rfl) rfl<|gw (fun w hw => R.load sc9 rfl (hr.grN hw) rfl) rfl<|gw (fun w hw => R.lenS rfl u9) rfl<|gw (fun w hw => R.ltI rfl rfl) rfl<|prq 1 rfl<|Wq.nil fun w hw => ?_
  have hr := hr.grN hw
  have hX := hX.grN hw
  have hK := hK.grN hw
  have hG := hG.trans (hw.no _)
  refine rS<|cD rfl (fun h9 => ?_) fun h9 => ?_
  ·try norm_cast at h9
   refine ks<|rO<|qr<|pr 1 rfl<|eN en37 rfl (simple_calls g s p false u ps _ hr hb om grp hgle (hgrp.mono om)) fun v w hv => ?_
   obtain ⟨ts10, wh10, is10, p10, b10, u10, e10, hp10a, hp10b, hc10, hi10⟩ := Sp.simple_split grp hgle s p false u ps om
   rw [e10] at hv
   obtain ⟨vl, rfl, hO, hro, hv⟩ := hv
   have hO : World.ownsRow w _ 53 8 vl (ST.cntL ts10) (ST.encL ts10) := hO
   have hOs : OwnK (q + 1) w vl ts10 := own_mono hO (show q + 1 ≤ _ from hX.lt)
   clear hr
   have hr : RD g ⟨s, p10, b10, u10, ps⟩ w := hro
   clear hro
   have hG := hG.trans hv
   have hX := hX.gr hv au
   have hK := hK.gr hv au
   have hr : RK g s p10 b10 u10 ps _ := hr
   refine pr 7 rfl<|nsq<|qr<|pr 2 rfl<|ns<|cC rfl (fun h11 => ?_) (fun h11 => ?_)
   ·try simp only [Bool.not_eq_true', Bool.not_eq_false'] at h11
    subst h11
    have hr : RK g s p10 b10 u10 ps _ := hr
    refine rE<|rX<|At.blockExitNe rfl<|rX<|rY ?_
    have hm : s.length < p + m := hm.resolve_left dC
    obtain ⟨m, rfl⟩ := sU m
    rw [Sp.go_no ⟨rfl, by assumption⟩ e10] at hE
    exact cT [(0, pP g), (1, .bool pe), (5, pP q), (6, kv), (7, .int .i64 ((mn : Nat) : Int))] rfl ⟨kv, _, tss, vv, mn, _, _, _, rfl, hX, hK, hr, hG, hE, om, om, om, om, om⟩
   try simp only [Bool.not_eq_true', Bool.not_eq_false'] at h11
   subst h11
   have hr : RK g s p10 b10 u10 ps _ := hr
   refine ksqr<|pr 1 rfl<|aK rfl rfl<|pr 1 rfl<|nsq<|qr<|pr 1 rfl<|qq (R.neS rfl rfl) rfl<|ns<|cD rfl (fun h12 => ?_) fun h12 => ?_
   ·try norm_cast at h12
    refine qqr<|pr 2 rfl<|ns<|cC rfl (fun h13 => ?_) (fun h13 => ?_)
    ·try simp only [Bool.not_eq_true', Bool.not_eq_false'] at h13
     subst h13
     have hr : RK g s p10 b10 u10 ps _ := hr
     refine qr<|pr 3 rfl<|fA fo38_3 rfl<|W.splitB (R.load sc4 rfl hr rfl) rfl rfl rfl (fun h14 => ?_) (fun h14 => ?_)
     ·subst h14
      have hr : RK g s p10 b10 true ps _ := hr
      refine pr 7 rfl<|fA fo38_3 rfl<|sT sc4 hr rfl fun w hr hs => ?_
      have hX := hX.gr hs au
      have hK := hK.gr hs au
      have hOs := hOs.gr hs au
      have hr : RK g s p10 b10 true ps _ := hr
      have hG := hG.trans hs
      refine nsqr<|pr 1 rfl<|eN en28 rfl (fail_calls g s p10 b10 true ps _ hr) fun v w hv => ?_
      obtain ⟨hO, hr, hv⟩ := hv
      have hO := own_mono hO hG.size
      have hG := hG.trans hv
      have hX := hX.gr hv au
      have hK := hK.gr hv au
      have hOs := hOs.gr hv au
      have hr : RK g s p10 true true ps _ := hr
      refine pr 1 rfl<|nsth<|rH<|rC<|rH<|rC<|rH ?_
      have hm : s.length < p + m := hm.resolve_left dC
      obtain ⟨m, rfl⟩ := sU m
      refine rA rfl rfl ?_
      rw [hE, Sp.go_pe ⟨rfl, by assumption⟩ e10 aM]
      exact ⟨hO, hr, hG⟩
     subst h14
     have hr : RK g s p10 b10 false ps _ := hr
     refine pr 3 rfl<|gg (R.fieldAddr fo38_4 rfl) rfl<|gg (R.load sc4 rfl hr rfl) rfl<|pr 2 rfl<|fA fo38_3 rfl<|sT sc4 hr rfl fun w hr hs => ?_
     have hX := hX.gr hs au
     have hK := hK.gr hs au
     have hOs := hOs.gr hs au
     have hr : RK g s p10 b10 ps ps _ := hr
     have hG := hG.trans hs
     refine nsqr<|pr 1 rfl<|eN en28 rfl (fail_calls g s p10 b10 ps ps _ hr) fun v w hv => ?_
     obtain ⟨hO, hr, hv⟩ := hv
     have hO := own_mono hO hG.size
     have hG := hG.trans hv
     have hX := hX.gr hv au
     have hK := hK.gr hv au
     have hOs := hOs.gr hv au
     have hr : RK g s p10 true ps ps _ := hr
     refine pr 1 rfl<|nsth<|rH<|rC<|rH<|rC<|rH ?_
     have hm : s.length < p + m := hm.resolve_left dC
     obtain ⟨m, rfl⟩ := sU m
     refine rA rfl rfl ?_
     rw [hE, Sp.go_pe ⟨rfl, by assumption⟩ e10 aM]
     exact ⟨hO, hr, hG⟩
    try simp only [Bool.not_eq_true', Bool.not_eq_false'] at h13
    subst h13
    have hr : RK g s p10 b10 u10 ps _ := hr
    refine ksq<|qr<|fA fo53_3 rfl<|lD sc9 hX rfl rfl<|qq (R.neS rfl rfl) rfl<|ns<|cD rfl (fun h15 => ?_) fun h15 => ?_
    ·try norm_cast at h15
     refine qr<|pr 2 rfl<|fA fo38_3 rfl<|sT sc4 hr rfl fun w hr hs => ?_
     have hX := hX.gr hs au
     have hK := hK.gr hs au
     have hOs := hOs.gr hs au
     have hr : RK g s p10 b10 true ps _ := hr
     have hG := hG.trans hs
     refine nsqr<|pr 1 rfl<|eN en28 rfl (fail_calls g s p10 b10 true ps _ hr) fun v w hv => ?_
     obtain ⟨hO, hr, hv⟩ := hv
     have hO := own_mono hO hG.size
     have hG := hG.trans hv
     have hX := hX.gr hv au
     have hK := hK.gr hv au
     have hOs := hOs.gr hv au
     have hr : RK g s p10 true true ps _ := hr
     refine pr 1 rfl<|nsth<|rH<|rC<|rH<|rC<|rH ?_
     have hm : s.length < p + m := hm.resolve_left dC
     obtain ⟨m, rfl⟩ := sU m
     refine rA rfl rfl ?_
     rw [hE, Sp.go_two ⟨rfl, by assumption⟩ e10 aM aM]
     exact ⟨hO, hr, hG⟩
    try norm_cast at h15
    refine ksqr<|pr 1 rfl<|fA fo53_3 rfl<|sT sc9 hX rfl fun w hX hs => ?_
    have hr := hr.gr hs au
    have hK := hK.gr hs au
    have hOs := hOs.gr hs au
    have hr : RK g s p10 b10 u10 ps _ := hr
    have hG := hG.fresh hs hqw
    refine ns<|rE<|rX<|rY ?_
    have hm : s.length < p + m := hm.resolve_left dC
    obtain ⟨m, rfl⟩ := sU m
    rw [Sp.go_el ⟨rfl, by assumption⟩ e10 aM (by first | assumption | exact Decidable.not_not.1 aM)] at hE
    exact cT [(0, pP g), (1, .bool true), (5, pP q), (6, kv), (7, .int .i64 ((mn + 1 : Nat) : Int))] rfl ⟨m, om, kv, _, tss, wh10, mn + 1, _, _, _, rfl, hX, hK, hr, hG, hE, Or.inr (by have := hi10 rfl; omega), om, om, om, om, om⟩
   try norm_cast at h12
   refine ksq<|qr<|fA fo53_3 rfl<|lD sc9 hX rfl rfl<|qq (R.neS rfl rfl) rfl<|ns<|cD rfl (fun h16 => ?_) fun h16 => ?_
   ·try norm_cast at h16
    refine rR<|pr 2 rfl<|fA fo38_3 rfl<|sT sc4 hr rfl fun w hr hs => ?_
    have hX := hX.gr hs au
    have hK := hK.gr hs au
    have hOs := hOs.gr hs au
    have hr : RK g s p10 b10 true ps _ := hr
    have hG := hG.trans hs
    refine nsr<|pr 2 rfl<|W.buildSlice (ps := [(0, _)]) (fun a ha => by simp [ha.ev (x := .tmp 94) rfl]) (row28 _ (own_oneCell hOs)) rfl fun w kb17 hkz hB hv => ?_
    have hr := hr.grN hv
    have hX := hX.grN hv
    have hK := hK.grN hv
    have hOs := hOs.grN hv
    have hG := hG.trans (hv.no _)
    refine W.appendKid (ts := ts10) el28 hK rfl rfl hB hOs (by first | omega | (simp; done)) (by have := hX.lt; omega) rfl fun kv18 w hK2 hv => ?_
    have hG := Gr.own hG hv (own_mono hK.2.1 om)
    have hr := hr.gr hv (own_ne hK.2.1 om)
    have hX := hX.gr hv (own_ne hK.2.1 om)
    clear hK
    have hK := hK2
    clear hK2
    refine pr 1 rfl<|nB ?_
    have hm : s.length < p + m := hm.resolve_left dC
    obtain ⟨m, rfl⟩ := sU m
    rw [Sp.go_one ⟨rfl, by assumption⟩ e10 (by first | assumption | exact Decidable.not_not.1 aM), ← flatten_snoc, if_neg (by first | assumption | exact Decidable.not_not.1 aM)] at hE
    exact cT [(0, pP g), (1, .bool pe), (5, pP q), (6, kv18), (7, .int .i64 ((mn + 1 : Nat) : Int))] rfl ⟨m, om, kv18, _, tss ++ [ts10], _, mn + 1, _, _, _, rfl, hX, hK, hr, hG, hE, Or.inr (by have := hi10 rfl; omega), om, om, by rw [ST.cntL_flatten_snoc]; omega, by rw [List.length_append]; simp only [List.length_cons, List.length_nil]; omega, om⟩
   try norm_cast at h16
   refine ks<|rR<|pr 2 rfl<|W.buildSlice (ps := [(0, _)]) (fun a ha => by simp [ha.ev (x := .tmp 94) rfl]) (row28 _ (own_oneCell hOs)) rfl fun w kb19 hkz hB hv => ?_
   have hr := hr.grN hv
   have hX := hX.grN hv
   have hK := hK.grN hv
   have hOs := hOs.grN hv
   have hG := hG.trans (hv.no _)
   refine W.appendKid (ts := ts10) el28 hK rfl rfl hB hOs (by first | omega | (simp; done)) (by have := hX.lt; omega) rfl fun kv20 w hK2 hv => ?_
   have hG := Gr.own hG hv (own_mono hK.2.1 om)
   have hr := hr.gr hv (own_ne hK.2.1 om)
   have hX := hX.gr hv (own_ne hK.2.1 om)
   clear hK
   have hK := hK2
   clear hK2
   refine pr 1 rfl<|nB ?_
   have hm : s.length < p + m := hm.resolve_left dC
   obtain ⟨m, rfl⟩ := sU m
   rw [Sp.go_one ⟨rfl, by assumption⟩ e10 (by first | assumption | exact Decidable.not_not.1 aM), ← flatten_snoc, if_pos (by first | assumption | exact Decidable.not_not.1 aM)] at hE
   exact cT [(0, pP g), (1, .bool pe), (5, pP q), (6, kv20), (7, .int .i64 ((mn + 1 : Nat) : Int))] rfl ⟨m, om, kv20, _, tss ++ [ts10], _, mn + 1, _, _, _, rfl, hX, hK, hr, hG, hE, Or.inr (by have := hi10 rfl; omega), om, om, by rw [ST.cntL_flatten_snoc]; omega, by rw [List.length_append]; simp only [List.length_cons, List.length_nil]; omega, om⟩
  try norm_cast at h9
  refine rE<|rX<|rX<|rY ?_
  rw [Sp.go_stop (by simp only; intro hq; first | (have := hq.2; omega) | (exact absurd hq.1 dC))] at hE
  exact cT [(0, pP g), (1, .bool pe), (5, pP q), (6, kv), (7, .int .i64 ((mn : Nat) : Int))] rfl ⟨kv, _, tss, vv, mn, _, _, _, rfl, hX, hK, hr, hG, hE, om, om, om, om, om⟩
 rintro l w ⟨kv, vs, tss, vv, mn, p, b, u, rfl, hX, hK, hr, hG, hE, hp1, hp2, hct, hln, hmn⟩
 have hr : RK g s p b u ps _ := hr
 refine qqr<|pr 1 rfl<|eN en26 rfl (nx_calls g s p b u ps _ hr hb om) fun v w hv => ?_
 obtain ⟨rfl, hv⟩ := hv
 have hr := hr.grN hv
 have hG := hG.trans (hv.no _)
 have hnx := Sp.nx_lt s (p)
 have hX := hX.gr hv au
 have hK := hK.gr hv au
 refine pr 1 rfl<|nsqr<|pr 1 rfl<|W.split (R.eqI rfl rfl) rfl rfl rfl (fun h21 => ?_) (fun h21 => ?_)
 ·try norm_cast at h21
  refine pr 4 rfl<|ns<|cV rfl<|rR<|pr 2 rfl<|fA fo38_3 rfl<|sT sc4 hr rfl fun w hr hs => ?_
  have hX := hX.gr hs au
  have hK := hK.gr hs au
  have hr : RK g s p b true ps _ := hr
  have hG := hG.trans hs
  refine nsq<|qr<|pr 1 rfl<|qq (R.eqI rfl rfl) rfl<|ns<|cD rfl (fun h22 => ?_) fun h22 => ?_
  ·try norm_cast at h22
   refine qr<|pr 1 rfl<|eN en28 rfl (fail_calls g s p b true ps _ hr) fun v w hv => ?_
   obtain ⟨hO, hr, hv⟩ := hv
   have hO := own_mono hO hG.size
   have hG := hG.trans hv
   have hX := hX.gr hv au
   have hK := hK.gr hv au
   have hr : RK g s p true true ps _ := hr
   refine pr 1 rfl<|nsth ?_
   have hc : (if Sp.next ⟨s, p, b, u, ps⟩ = 124 ∨ Sp.next ⟨s, p, b, u, ps⟩ = 42 then Rd.unsure ⟨s, p, b, u, ps⟩ else ⟨s, p, b, u, ps⟩) = ⟨s, p, b, true, ps⟩ := by
    rw [Sp.next_mk, if_pos om]; rfl
   refine rA rfl rfl ?_
   rw [hE, Sp.compTail, if_pos om, hc]
   exact ⟨hO, hr, hG⟩
  try norm_cast at h22
  refine ksqr<|qq (R.loadAgg (k := 8) (vs := (SelN.cells ⟨21, 0, [], vv, 0, 0, 0⟩ 0)) ag53 rfl hX (Nat.le_refl 8) rfl) rfl<|pr 1 rfl<|eN en19 rfl (SelMadeK ⟨21, 0, [], vv, 0, 0, 0⟩ _ _ _ _ _ hK om om) fun v w hv => ?_
  obtain ⟨hO, hv⟩ := hv
  have hO := own_mono hO hG.size
  have hr := hr.grN hv
  have hG := hG.trans (hv.no _)
  have hX := hX.gr hv au
  have hK := hK.gr hv au
  refine pr 1 rfl<|nst ?_
  have hc : (if Sp.next ⟨s, p, b, u, ps⟩ = 124 ∨ Sp.next ⟨s, p, b, u, ps⟩ = 42 then Rd.unsure ⟨s, p, b, u, ps⟩ else ⟨s, p, b, u, ps⟩) = ⟨s, p, b, true, ps⟩ := by
   rw [Sp.next_mk, if_pos om]; rfl
  refine rA rfl rfl ?_
  rw [hE, Sp.compTail, if_neg om, hc]
  exact ⟨hO, hr, hG⟩
 try norm_cast at h21
 refine pr 2 rfl<|gg (R.eqI rfl rfl) rfl<|pr 1 rfl<|ns<|cD rfl (fun h23 => ?_) fun h23 => ?_
 ·try norm_cast at h23
  refine rR<|pr 2 rfl<|fA fo38_3 rfl<|sT sc4 hr rfl fun w hr hs => ?_
  have hX := hX.gr hs au
  have hK := hK.gr hs au
  have hr : RK g s p b true ps _ := hr
  have hG := hG.trans hs
  refine nsq<|qr<|pr 1 rfl<|qq (R.eqI rfl rfl) rfl<|ns<|cD rfl (fun h24 => ?_) fun h24 => ?_
  ·try norm_cast at h24
   refine qr<|pr 1 rfl<|eN en28 rfl (fail_calls g s p b true ps _ hr) fun v w hv => ?_
   obtain ⟨hO, hr, hv⟩ := hv
   have hO := own_mono hO hG.size
   have hG := hG.trans hv
   have hX := hX.gr hv au
   have hK := hK.gr hv au
   have hr : RK g s p true true ps _ := hr
   refine pr 1 rfl<|nsth ?_
   have hc : (if Sp.next ⟨s, p, b, u, ps⟩ = 124 ∨ Sp.next ⟨s, p, b, u, ps⟩ = 42 then Rd.unsure ⟨s, p, b, u, ps⟩ else ⟨s, p, b, u, ps⟩) = ⟨s, p, b, true, ps⟩ := by
    rw [Sp.next_mk, if_pos om]; rfl
   refine rA rfl rfl ?_
   rw [hE, Sp.compTail, if_pos om, hc]
   exact ⟨hO, hr, hG⟩
  try norm_cast at h24
  refine ksqr<|qq (R.loadAgg (k := 8) (vs := (SelN.cells ⟨21, 0, [], vv, 0, 0, 0⟩ 0)) ag53 rfl hX (Nat.le_refl 8) rfl) rfl<|pr 1 rfl<|eN en19 rfl (SelMadeK ⟨21, 0, [], vv, 0, 0, 0⟩ _ _ _ _ _ hK om om) fun v w hv => ?_
  obtain ⟨hO, hv⟩ := hv
  have hO := own_mono hO hG.size
  have hr := hr.grN hv
  have hG := hG.trans (hv.no _)
  have hX := hX.gr hv au
  have hK := hK.gr hv au
  refine pr 1 rfl<|nst ?_
  have hc : (if Sp.next ⟨s, p, b, u, ps⟩ = 124 ∨ Sp.next ⟨s, p, b, u, ps⟩ = 42 then Rd.unsure ⟨s, p, b, u, ps⟩ else ⟨s, p, b, u, ps⟩) = ⟨s, p, b, true, ps⟩ := by
   rw [Sp.next_mk, if_pos om]; rfl
  refine rA rfl rfl ?_
  rw [hE, Sp.compTail, if_neg om, hc]
  exact ⟨hO, hr, hG⟩
 try norm_cast at h23
 refine ksq<|qr<|pr 1 rfl<|qq (R.eqI rfl rfl) rfl<|ns<|cD rfl (fun h25 => ?_) fun h25 => ?_
 ·try norm_cast at h25
  refine qr<|pr 1 rfl<|eN en28 rfl (fail_calls g s p b u ps _ hr) fun v w hv => ?_
  obtain ⟨hO, hr, hv⟩ := hv
  have hO := own_mono hO hG.size
  have hG := hG.trans hv
  have hX := hX.gr hv au
  have hK := hK.gr hv au
  have hr : RK g s p true u ps _ := hr
  refine pr 1 rfl<|nsth ?_
  have hc : (if Sp.next ⟨s, p, b, u, ps⟩ = 124 ∨ Sp.next ⟨s, p, b, u, ps⟩ = 42 then Rd.unsure ⟨s, p, b, u, ps⟩ else ⟨s, p, b, u, ps⟩) = ⟨s, p, b, u, ps⟩ := by
   rw [Sp.next_mk, if_neg om]
  refine rA rfl rfl ?_
  rw [hE, Sp.compTail, if_pos om, hc]
  exact ⟨hO, hr, hG⟩
 try norm_cast at h25
 refine ksqr<|qq (R.loadAgg (k := 8) (vs := (SelN.cells ⟨21, 0, [], vv, 0, 0, 0⟩ 0)) ag53 rfl hX (Nat.le_refl 8) rfl) rfl<|pr 1 rfl<|eN en19 rfl (SelMadeK ⟨21, 0, [], vv, 0, 0, 0⟩ _ _ _ _ _ hK om om) fun v w hv => ?_
 obtain ⟨hO, hv⟩ := hv
 have hO := own_mono hO hG.size
 have hr := hr.grN hv
 have hG := hG.trans (hv.no _)
 have hX := hX.gr hv au
 have hK := hK.gr hv au
 refine pr 1 rfl<|nst ?_
 have hc : (if Sp.next ⟨s, p, b, u, ps⟩ = 124 ∨ Sp.next ⟨s, p, b, u, ps⟩ = 42 then Rd.unsure ⟨s, p, b, u, ps⟩ else ⟨s, p, b, u, ps⟩) = ⟨s, p, b, u, ps⟩ := by
  rw [Sp.next_mk, if_neg om]
 refine rA rfl rfl ?_
 rw [hE, Sp.compTail, if_neg om, hc]
 exact ⟨hO, hr, hG⟩
theorem cell_lt {w : World} {b k : Nat} {u : Value} (h : w.cell? ⟨b, k, none⟩ = some u) : b < w.heap.size := by
 rcases Nat.lt_or_ge b w.heap.size with h1 | h1
 ·exact h1
 simp [World.cell?, Array.getElem?_eq_none h1] at h
def NodesAt (w : World) (b o : Nat) (xs : List Value) : Prop := ∀ j u, xs[j]? = some u → w.cell? ⟨b, o + j, none⟩ = some u
theorem NodesAt.gr {w w' : World} {b o : Nat} {xs : List Value} {r : Option Nat} (h : NodesAt w b o xs) (hg : Gr w w' r) (hn : some b ≠ r) : NodesAt w' b o xs :=
 fun j u hj => hg.cell (h j u hj) hn
theorem NodesAt.grN {w w' : World} {b o : Nat} {xs : List Value} (h : NodesAt w b o xs) (hg : Gr w w' none) : NodesAt w' b o xs := h.gr hg (by simp)
theorem NodesAt.left {w : World} {b o : Nat} {xs ys : List Value} (h : NodesAt w b o (xs ++ ys)) : NodesAt w b o xs := fun j u hj => h j u (by
 have hl : j < xs.length := by
  rcases Nat.lt_or_ge j xs.length with h1 | h1
  ·exact h1
  rw [List.getElem?_eq_none h1] at hj; cases hj
 rw [List.getElem?_append_left hl]; exact hj)
theorem NodesAt.right {w : World} {b o : Nat} {xs ys : List Value} (h : NodesAt w b o (xs ++ ys)) : NodesAt w b (o + xs.length) ys := fun j u hj => by
 have := h (xs.length + j) u (by rw [List.getElem?_append_right (Nat.le_add_right _ _), Nat.add_sub_cancel_left]; exact hj)
 rwa [← Nat.add_assoc] at this
theorem NodesAt.cast {w : World} {b o o' : Nat} {xs : List Value} (h : NodesAt w b o xs) (e : o = o') : NodesAt w b o' xs := e ▸ h
theorem NodesAt.lt {w : World} {b o : Nat} {xs : List Value} (h : NodesAt w b o xs) (hp : 0 < xs.length) : b < w.heap.size :=
 cell_lt (h 0 xs[0] (List.getElem?_eq_getElem hp))
theorem NodesAt.of_own {w : World} {base : Nat} {e : TypeId} {size : Nat} {b n m cap : Nat} {xs : List Value} (h : w.ownsRow base e size (.slice (some ⟨b, 0, none⟩) m cap) n xs) : NodesAt w b 0 xs := fun j u hj => by
 have := h.cells (g := b) rfl j u hj
 rwa [addr_add] at this
theorem ST.enc_eq (T : ST) : T.enc = T.top.cells T.cnt ++ ST.encL T.kids := by
 cases T with
 | node x l => rw [ST.enc, ST.cnt]; rfl
theorem ST.cnt_eq (T : ST) : T.cnt = 1 + ST.cntL T.kids := by
 cases T with
 | node x l => rw [ST.cnt]; rfl
theorem NodesAt.top {w : World} {b o : Nat} {T : ST} (h : NodesAt w b o T.enc) : NodesAt w b o (T.top.cells T.cnt) := by
 rw [ST.enc_eq] at h; exact h.left
theorem NodesAt.kids {w : World} {b o : Nat} {T : ST} (h : NodesAt w b o T.enc) : NodesAt w b (o + 8) (ST.encL T.kids) := by
 rw [ST.enc_eq] at h; exact h.right
theorem NodesAt.kind {w : World} {b o : Nat} {T : ST} (h : NodesAt w b o T.enc) : w.cell? ⟨b, o + 0, none⟩ = some (.int .i64 (T.top.kind : Int)) := h.top 0 _ rfl
theorem NodesAt.val {w : World} {b o : Nat} {T : ST} (h : NodesAt w b o T.enc) : w.cell? ⟨b, o + 3, none⟩ = some (str T.top.val) := h.top 3 _ rfl
theorem NodesAt.size {w : World} {b o : Nat} {T : ST} (h : NodesAt w b o T.enc) : w.cell? ⟨b, o + 7, none⟩ = some (.int .i64 (T.cnt : Int)) := h.top 7 _ rfl
theorem NodesAt.blk {w : World} {b o : Nat} {T : ST} (h : NodesAt w b o T.enc) : b < w.heap.size := h.lt (by rw [ST.enc_length]; have := ST.cnt_pos T; omega)
theorem NodesAt.head {w : World} {b o : Nat} {t : ST} {r : List ST} (h : NodesAt w b o (ST.encL (t :: r))) : NodesAt w b o t.enc := by
 rw [ST.encL] at h; exact h.left
theorem NodesAt.tail {w : World} {b o : Nat} {t : ST} {r : List ST} (h : NodesAt w b o (ST.encL (t :: r))) : NodesAt w b (o + t.cnt * 8) (ST.encL r) := by
 rw [ST.encL] at h; have := h.right; rwa [ST.enc_length] at this
theorem NodesAt.last {w : World} {b o : Nat} {y : ST} : ∀ {r : List ST}, r.getLast? = some y → NodesAt w b o (ST.encL r) → ∃ k, NodesAt w b (o + k * 8) y.enc ∧ k + y.cnt = ST.cntL r
 | [], h, _ => by cases h
 | [t], h, hn => by
  simp at h; subst h
  exact ⟨0, by simpa using hn.head, by simp [ST.cntL]⟩
 | t :: t2 :: r, h, hn => by
  rw [List.getLast?_cons_cons] at h
  obtain ⟨k, h1, h2⟩ := NodesAt.last (r := t2 :: r) h hn.tail
  exact ⟨t.cnt + k, h1.cast om, by rw [ST.cntL]; omega⟩
def places : Nat → List ST → List Value
 | _, [] => []
 | k, t :: r => .int .i64 (k : Int) :: places (k + t.cnt) r
theorem places_length : ∀ (k : Nat) (l : List ST), (places k l).length = l.length
 | _, [] => rfl
 | k, t :: r => by rw [places, List.length_cons, List.length_cons, places_length]
theorem places_last : ∀ (k : Nat) (l : List ST) (y : ST), l.getLast? = some y → ∃ j, (places k l)[l.length - 1]? = some (.int .i64 ((k + j : Nat) : Int)) ∧ j + y.cnt = ST.cntL l
 | _, [], _, h => by cases h
 | k, [t], y, h => by
  simp at h; subst h
  exact ⟨0, by simp [places], by simp [ST.cntL]⟩
 | k, t :: t2 :: r, y, h => by
  rw [List.getLast?_cons_cons] at h
  obtain ⟨j, h1, h2⟩ := places_last (k + t.cnt) (t2 :: r) y h
  refine ⟨t.cnt + j, ?_, by rw [ST.cntL]; omega⟩
  rw [places]
  simp only [List.length_cons] at h1 ⊢
  rw [show r.length + 1 + 1 - 1 = (r.length + 1 - 1) + 1 from by omega, List.getElem?_cons_succ, h1]
  rw [Nat.add_assoc]
theorem row54 (k : Int) : rowOf PR 54 1 [(0, .int .i64 k)] = some (3, [.int .i64 k]) := by kernel_rfl
theorem SelKids_calls (b off mx cap at0 : Nat) (T : ST) (w0 : World) (hN : NodesAt w0 b (off + at0 * 8) T.enc) (hm : at0 + T.cnt ≤ mx) (hb : mx ≤ 90000) :
 CR PR 22 [.slice (some ⟨b, off, none⟩) mx cap, .int .i64 (at0 : Int)] w0 fun v w' => w'.ownsRow w0.heap.size 3 1 v T.kids.length (places (at0 + 1) T.kids) ∧ Gr w0 w' none := by
 have hcp := ST.cnt_pos T
 have hG : Gr w0 w0 none := Gr.refl _ _
 refine CR.of (n := 31) [(0, .slice (some ⟨b, off, none⟩) mx cap), (1, .int .i64 (at0 : Int))] Tryz.func22 rfl Tryz.ntmps22 rfl ⟨rfl, rfl, trivial⟩<|qr<|pr 1 rfl<|nsqr<|pr 1 rfl<|nsq<|qr<|pr 1 rfl<|aK rfl rfl<|pr 1 rfl<|ns<|rO ?_
 have hbl : b < w0.heap.size := hN.blk
 refine sB [(0, .slice (some ⟨b, off, none⟩) mx cap), (1, .int .i64 (at0 : Int)), (5, .slice none 0 0), (6, .int .i64 ((at0 + 1 : Nat) : Int))] rfl<|C.loop (fun mu l w' => ∃ (k : Nat) (ov : Value) (dn : List Value) (r : List ST), l = [(0, .slice (some ⟨b, off, none⟩) mx cap), (1, .int .i64 (at0 : Int)), (5, ov), (6, .int .i64 (k : Int))] ∧ NodesAt w' b (off + at0 * 8) T.enc ∧ NodesAt w' b (off + k * 8) (ST.encL r) ∧ w'.ownsRow w0.heap.size 3 1 ov dn.length dn ∧ Gr w0 w' none ∧ dn ++ places k r = places (at0 + 1) T.kids ∧ k + ST.cntL r = at0 + T.cnt ∧ mu = r.length ∧ dn.length ≤ k) (T.kids.length) (⟨at0 + 1, _, [], T.kids, rfl, hN, hN.kids.cast om, World.ownsRow_nil _ _ _ _, hG, rfl, by rw [ST.cnt_eq T]; omega, rfl, by simp⟩) ?_
 rintro m l w ⟨k, ov, dn, r, rfl, hN, hR, hO, hG, hP, hk, hmu, hdn⟩
 refine qqr<|pr 4 rfl<|qq (R.idxA rfl rfl _ rfl om sl22) rfl<|fA fo53_7 rfl<|qq (R.loadC sc3 rfl hN.size) rfl<|qq (R.addN rfl rfl om) rfl<|qq (R.ltI rfl rfl) rfl<|ns<|cD rfl (fun h1 => ?_) fun h1 => ?_
 ·obtain ⟨t, r, rfl⟩ : ∃ t r2, r = t :: r2 := by
   cases r with
   | nil => simp only [ST.cntL] at hk; omega
   | cons t r2 => exact ⟨t, r2, rfl⟩
  have hK := hR.head
  have hkt : k + t.cnt ≤ at0 + T.cnt := by rw [ST.cntL] at hk; omega
  refine ksq<|rO<|rR<|pr 2 rfl<|W.buildSlice (ps := [(0, .int .i64 (k : Int))]) (fun a ha => by simp [ha.ev (x := .tmp 27) rfl]) (row54 _) rfl fun w kb hkz hB hv => ?_
  have hN := hN.grN hv
  have hR := hR.grN hv
  have hK := hK.grN hv
  have hO := own_grN hO hv
  have hG := hG.trans hv
  refine W.append el54 rfl hO (news := [.int .i64 (k : Int)]) rfl rfl (fun j u hj => ?_) (fun u hu => by simp at hu; subst hu; rfl) (by simp only [maxLen]; omega) om hG.size rfl fun ov2 w hO2 hv => ?_
  ·cases j with
   | zero => simp at hj; subst hj; exact hB.cell rfl
   | succ j => simp at hj
  have hbb := own_ne hO (g := b) (Nat.lt_of_lt_of_le hbl (Nat.le_refl _))
  have hN := hN.gr hv hbb
  have hR := hR.gr hv hbb
  have hK := hK.gr hv hbb
  have hG := Gr.own hG hv hO
  refine pr 1 rfl<|nbs<|rR<|pr 3 rfl<|qq (R.idxA rfl rfl _ rfl om sl22) rfl<|fA fo53_7 rfl<|qq (R.loadC sc3 rfl hK.size) rfl<|qq (R.max2 1 rfl rfl) rfl<|qq (R.addN rfl rfl om) rfl<|pr 1 rfl<|rN ?_
  exact cT [(0, .slice (some ⟨b, off, none⟩) mx cap), (1, .int .i64 (at0 : Int)), (5, ov2), (6, .int .i64 ((k + max 1 t.cnt : Nat) : Int))] rfl ⟨r.length, by simp only [List.length_cons] at hmu; omega, k + t.cnt, ov2, dn ++ [.int .i64 (k : Int)], r, by rw [Nat.max_eq_right (ST.cnt_pos t)], hN, hR.tail.cast om, by simpa using hO2, hG, by rw [← hP, places]; simp, by rw [ST.cntL] at hk; omega, rfl, by rw [List.length_append, List.length_cons, List.length_nil]; have := ST.cnt_pos t; omega⟩
 refine rE<|rX<|rX<|rY<|sqr<|pr 2 rfl<|nst ?_
 have hr0 : r = [] := by
  cases r with
  | nil => rfl
  | cons t r2 => exfalso; rw [ST.cntL] at hk; have := ST.cnt_pos t; omega
 subst hr0
 refine rA rfl rfl ⟨?_, hG⟩
 rw [places, List.append_nil] at hP
 rw [← hP, ← places_length (at0 + 1), ← hP]; exact hO
inductive OkLast : ST → Prop
 | leaf (x : SelN) (l : List ST) (h : x.kind ≠ 22) : OkLast (.node x l)
 | comb (x : SelN) (l : List ST) (y : ST) (h : x.kind = 22) (hl : l.getLast? = some y) (hy : OkLast y) : OkLast (.node x l)
namespace Sp
theorem depth_mem : ∀ {l : List ST} {y : ST}, y ∈ l → depth y ≤ depthL l
 | [], y, h => by cases h
 | t :: r, y, h => by
  rw [depthL]
  rcases List.mem_cons.1 h with rfl | h
  ·exact Nat.le_max_left _ _
  exact Nat.le_trans (depth_mem h) (Nat.le_max_right _ _)
theorem lastPseudo_succ : ∀ (k : Nat) (T : ST), depth T ≤ k → lastPseudo (k + 1) T = lastPseudo k T
 | 0, T, h => by
  cases T with
  | node x l => rw [depth] at h; omega
 | k + 1, T, h => by
  cases T with
  | node x l =>
   rw [depth] at h
   rw [lastPseudo, lastPseudo]
   split
   ·cases hy : l.getLast? with
    | none => rfl
    | some y =>
     have hd := depth_mem (List.mem_of_getLast? hy)
     dsimp only
     rw [lastPseudo_succ k y om]
   rfl
theorem lastPseudo_add (T : ST) : ∀ (j : Nat), lastPseudo (depth T + j) T = lastPseudo (depth T) T
 | 0 => rfl
 | j + 1 => by rw [← Nat.add_assoc, lastPseudo_succ _ T (Nat.le_add_right _ _), lastPseudo_add T j]
theorem lastPseudo_fuel (k : Nat) (T : ST) (h : depth T ≤ k) : lastPseudo k T = lastPseudo (depth T) T := by
 rw [← lastPseudo_add T (k - depth T)]; congr 1; omega
theorem lastPseudo_step {x : SelN} {l : List ST} {y : ST} (h : x.kind = 22) (hl : l.getLast? = some y) : lastPseudo (depth (.node x l)) (.node x l) = lastPseudo (depth y) y := by
 rw [depth, lastPseudo, if_pos h, hl]
 exact lastPseudo_fuel _ y (depth_mem (List.mem_of_getLast? hl))
theorem lastPseudo_leaf {T : ST} (h : T.top.kind ≠ 22) : lastPseudo (depth T) T = if T.top.kind = 21 then T.top.val else [] := by
 cases T with
 | node x l =>
  rw [depth, lastPseudo, if_neg (show ¬ x.kind = 22 from h)]; rfl
end Sp
theorem OkLast.kid {T : ST} (h : OkLast T) (hk : T.top.kind = 22) : ∃ y, T.kids.getLast? = some y ∧ OkLast y ∧ Sp.lastPseudo (Sp.depth T) T = Sp.lastPseudo (Sp.depth y) y := by
 cases h with
 | leaf x l h => exact absurd hk h
 | comb x l y h hl hy => exact ⟨y, hl, hy, Sp.lastPseudo_step h hl⟩
theorem ST.cntL_len : ∀ (l : List ST), l.length ≤ ST.cntL l
 | [] => Nat.le_refl _
 | t :: r => by have := ST.cntL_len r; have := ST.cnt_pos t; rw [ST.cntL, List.length_cons]; omega
theorem lastPseudo_calls (b off mx cap : Nat) (T : ST) (w0 : World) (hN : NodesAt w0 b (off + 0 * 8) T.enc) (hL : OkLast T) (hm : T.cnt ≤ mx) (hb : mx ≤ 90000) :
 CR PR 27 [.slice (some ⟨b, off, none⟩) mx cap] w0 fun v w' => v = str (Sp.lastPseudo (Sp.depth T) T) ∧ Gr w0 w' none := by
 have hK := hN
 have hG : Gr w0 w0 none := Gr.refl _ _
 refine CR.of (n := 31) [(0, .slice (some ⟨b, off, none⟩) mx cap)] Tryz.func27 rfl Tryz.ntmps27 rfl ⟨rfl, trivial⟩<|qr<|pr 1 rfl<|nsqr<|pr 1 rfl<|nsq<|rO<|sB [(0, .slice (some ⟨b, off, none⟩) mx cap), (3, .int .i64 ((0 : Nat) : Int))] rfl<|C.loop (fun mu l w' => ∃ (k : Nat) (t : ST), l = [(0, .slice (some ⟨b, off, none⟩) mx cap), (3, .int .i64 (k : Int))] ∧ NodesAt w' b (off + k * 8) t.enc ∧ OkLast t ∧ Gr w0 w' none ∧ Sp.lastPseudo (Sp.depth T) T = Sp.lastPseudo (Sp.depth t) t ∧ k + t.cnt ≤ mx ∧ mu = t.cnt) (T.cnt) (⟨0, T, rfl, hK, hL, hG, rfl, om, rfl⟩) ?_
 rintro m l w ⟨k, t, rfl, hK, hL, hG, hE, hm2, hmu⟩
 have hcpt := ST.cnt_pos t
 refine qqr<|pr 2 rfl<|qq (R.idxA rfl rfl _ rfl om sl22) rfl<|fA fo53_0 rfl<|qq (R.loadC sc3 rfl hK.kind) rfl<|qq (R.eqI rfl rfl) rfl<|ns<|cD rfl (fun h1 => ?_) fun h1 => ?_
 ·refine ks<|rO<|qr<|pr 2 rfl<|eN en22 rfl (SelKids_calls b off mx cap k t _ hK om hb) fun v w hv => ?_
  obtain ⟨hO, hv⟩ := hv
  have hK := hK.grN hv
  have hG := hG.trans hv
  obtain ⟨y, hy, hyL, hyE⟩ := hL.kid om
  have hne : 0 < t.kids.length := by cases hq : t.kids with | nil => rw [hq] at hy; cases hy | cons _ _ => simp
  obtain ⟨kb, kc, rfl⟩ := own_slice hO hne
  obtain ⟨j, hj1, hj2⟩ := places_last (k + 1) _ y hy
  have hcell := NodesAt.of_own hO _ _ hj1
  refine pr 1 rfl<|nsr<|pr 2 rfl<|qq (R.lenL rfl slq54) rfl<|qq (R.subTo ((t.kids.length - 1 : Nat) : Int) rfl rfl (by rw [show ((t.kids.length : Nat) : Int) - 1 = ((t.kids.length - 1 : Nat) : Int) from by omega]; exact wrap_nat (by have := ST.cntL_len t.kids; rw [ST.cnt_eq] at hm2; omega))) rfl<|qq (R.idxB rfl rfl _ rfl om sl54) rfl<|qq (R.loadC sc3 rfl (by simpa using hcell)) rfl<|pr 1 rfl<|nB ?_
  obtain ⟨j2, hy2, hj3⟩ := NodesAt.last hy (hK.kids.cast (show _ = off + (k + 1) * 8 from by omega))
  have hjj : j2 = j := by omega
  subst hjj
  have hct := ST.cnt_eq t
  exact cT [(0, .slice (some ⟨b, off, none⟩) mx cap), (3, .int .i64 ((k + 1 + j2 : Nat) : Int))] rfl ⟨y.cnt, om, k + 1 + j2, y, rfl, hy2.cast om, hyL, hG, hE.trans hyE, om, rfl⟩
 refine rE<|rX<|rX<|rY<|sq<|qr<|pr 2 rfl<|qq (R.idxA rfl rfl _ rfl om sl22) rfl<|fA fo53_0 rfl<|qq (R.loadC sc3 rfl hK.kind) rfl<|qq (R.eqI rfl rfl) rfl<|ns<|cD rfl (fun h2 => ?_) fun h2 => ?_
 ·refine qr<|pr 2 rfl<|qq (R.idxA rfl rfl _ rfl om sl22) rfl<|fA fo53_3 rfl<|qq (R.loadC sc9 rfl hK.val) rfl<|pr 1 rfl<|nsth<|rA rfl rfl ⟨?_, hG⟩
  rw [hE, Sp.lastPseudo_leaf om, if_pos om]
 refine ksqr<|pr 1 rfl<|nst<|rA rfl rfl ⟨?_, hG⟩
 rw [hE, Sp.lastPseudo_leaf om, if_neg om]
end Go.Proofs.YtogfnbkccfkpoaaGreatDoor
