/- A part (5) of the proof of the row of laws.FnFromText: lemmas on Att, Arg. No condition but what each statement says. -/
import Derived.Test.YtogfnbkccfkpoaaGreatDoorU04
set_option linter.unusedSimpArgs false
set_option linter.unusedVariables false
set_option maxRecDepth 100000
namespace Go.Proofs.YtogfnbkccfkpoaaGreatDoor
open Go Go.RowKit
open Eng
theorem rowSigns : rowOf PR 106 9 ((Sp.signs.map str).zipIdx.map fun p => (p.2, p.1)) = some (9, Sp.signs.map str) := by kernel_rfl
theorem own_node0 {w : World} {base : Nat} {v : Value} {X : SelN} (h : w.ownsRow base 53 8 v (1 + sumN []) (X.cells (1 + sumN []) ++ sumX [])) : w.ownsRow base 53 8 v (ST.node X []).cnt (ST.node X []).enc := by
 simpa [ST.cnt, ST.enc, ST.cntL, ST.encL, sumN, sumX] using h
theorem SelMade0 (X : SelN) (w0 : World) : CR PR 19 [.agg (X.cells 0).toArray, .slice none 0 0] w0 fun v w' => w'.ownsRow w0.heap.size 53 8 v (ST.node X []).cnt (ST.node X []).enc ∧ Gr w0 w' none :=
 (SelMade_calls X 0 none 0 [] w0 (fun j p h => by simp at h) (fun p h => by simp at h) (fun p h => by simp at h) dC dC).mono fun v w' h => ⟨own_node0 h.1, h.2⟩
theorem Sp.signs_len (i : Nat) : (Sp.signs.getD i []).length ≤ 100 := by
 rw [List.getD_eq_getElem?_getD]
 cases h : Sp.signs[i]? with
 | none => exact Nat.zero_le _
 | some x =>
  have hm := List.mem_of_getElem? h
  exact (by decide : ∀ x ∈ Sp.signs, x.length ≤ 100) x hm
theorem Sp.signs_cell {i : Nat} (h : i < 9) : (Sp.signs.map str)[i]? = some (str (Sp.signs.getD i [])) := by
 rw [List.getElem?_map, List.getD_eq_getElem?_getD, List.getElem?_eq_getElem (show i < Sp.signs.length from h)]; rfl
theorem Sp.attrib_1 {r r1 r2 r3 : Rd} {v1 v3 : Bool} {k : List UInt8} (e1 : Sp.spaces r = (v1, r1)) (e2 : Sp.name r1 = (k, r2)) (e3 : Sp.spaces r2 = (v3, r3)) (hb : r3.bad = true) : Sp.attrib r = (Sp.failed, r3.refuse) := by
 unfold Sp.attrib; simp only [e1, e2, e3, hb, if_true]; rfl
theorem Sp.attrib_2 {r r1 r2 r3 r4 : Rd} {v1 v3 : Bool} {k : List UInt8} (e1 : Sp.spaces r = (v1, r1)) (e2 : Sp.name r1 = (k, r2)) (e3 : Sp.spaces r2 = (v3, r3)) (hb : r3.bad = false) (e4 : Sp.taken r3 [93] = (true, r4)) : Sp.attrib r = (ST.node ⟨5, 1, Sp.lower k, [], 0, 0, 0⟩ [], r4) := by
 unfold Sp.attrib; simp only [e1, e2, e3, hb, e4, if_true, Bool.false_eq_true, if_false]
theorem Sp.attrib_3 {r r1 r2 r3 r4 r5 : Rd} {v1 v3 : Bool} {k : List UInt8} (e1 : Sp.spaces r = (v1, r1)) (e2 : Sp.name r1 = (k, r2)) (e3 : Sp.spaces r2 = (v3, r3)) (hb : r3.bad = false) (e4 : Sp.taken r3 [93] = (false, r4)) (e5 : Sp.signGo r4 7 2 = (1, r5)) : Sp.attrib r = (Sp.failed, ((r5.orUns (Sp.next r5 == 124)).orUns (Sp.next r5 == 35)).refuse) := by
 unfold Sp.attrib; simp only [e1, e2, e3, hb, e4, e5, if_true, Bool.false_eq_true, if_false]; rfl
theorem Sp.attrib_4 {r r1 r2 r3 r4 r5 r6 r7 r8 r9 r10 : Rd} {v1 v3 v6 v8 tr : Bool} {k vv : List UInt8} {op fl : Nat} (e1 : Sp.spaces r = (v1, r1)) (e2 : Sp.name r1 = (k, r2)) (e3 : Sp.spaces r2 = (v3, r3)) (hb : r3.bad = false) (e4 : Sp.taken r3 [93] = (false, r4)) (e5 : Sp.signGo r4 7 2 = (op, r5)) (ho : ¬ op = 1) (e6 : Sp.spaces r5 = (v6, r6)) (e7 : Sp.value r6 = (vv, r7)) (e8 : Sp.spaces r7 = (v8, r8))
 (e9 : (if r8.bad = false ∧ (Sp.next r8 = 105 ∨ Sp.next r8 = 73) then (1, (Sp.spaces (r8.adv 1)).2) else (0, if Sp.next r8 = 115 ∨ Sp.next r8 = 83 then r8.unsure else r8)) = (fl, r9)) (e10 : Sp.taken r9 [93] = (tr, r10)) : Sp.attrib r = if tr then (ST.node ⟨5, op, Sp.lower k, vv, 0, 0, fl⟩ [], r10) else (Sp.failed, r10.refuse) := by
 unfold Sp.attrib; simp only [e1, e2, e3, hb, e4, e5, e6, e7, e8, Bool.false_eq_true, if_false]; rw [if_neg ho]; simp only [e9, e10]; rfl
theorem attribute_calls (g : Nat) (s : List UInt8) (p0 : Nat) (b0 u0 ps : Bool) (w0 : World) (hr : RD g ⟨s, p0, b0, u0, ps⟩ w0) (hb : s.length ≤ 1000) (hp : p0 ≤ s.length + 1) :
 CR PR 44 [pP g] w0 fun v w' => w'.ownsRow w0.heap.size 53 8 v (Sp.attrib ⟨s, p0, b0, u0, ps⟩).1.cnt (Sp.attrib ⟨s, p0, b0, u0, ps⟩).1.enc ∧ RD g (Sp.attrib ⟨s, p0, b0, u0, ps⟩).2 w' ∧ Gr w0 w' (some g) := by
 have hr : RK g s p0 b0 u0 ps _ := hr
 have hG : Gr w0 w0 (some g) := Gr.refl _ _
 refine CR.of (n := 115) [(0, pP g)] Tryz.func44 rfl Tryz.ntmps44 rfl ⟨rfl, trivial⟩<|qr<|pr 1 rfl<|nsqr<|pr 1 rfl<|eN en24 rfl (spaces_calls g ⟨s, p0, b0, u0, ps⟩ _ hr hb sO) fun v w hv => ?_
 obtain ⟨v1, p1, b1, u1, e1, hp1a, hp1b, hb1, hu1, rfl, hr, hv⟩ := spl (Sp.spaces_le ⟨s, p0, b0, u0, ps⟩ okk) hv
 have hG := hG.trans hv
 refine nsqr<|pr 1 rfl<|eN en36 rfl (name_calls g s p1 b1 u1 ps _ hr hb om) fun v w hv => ?_
 obtain ⟨v2, p2, b2, u2, e2, hp2a, hp2b, hb2, hu2, hl2, rfl, hr, hv⟩ := spl2 (Sp.name_le ⟨s, p1, b1, u1, ps⟩ okk) hv
 have hG := hG.trans hv
 refine eN en35 rfl (lower_calls _ _ om) fun v w hv => ?_
 obtain ⟨rfl, hv⟩ := hv
 have hr := hr.grN hv
 have hG := hG.trans (hv.no _)
 refine qq (R.build (vs := [.int .i64 5, .int .i64 1, str (Sp.lower v2), str [], .int .i64 0, .int .i64 0, .int .i64 0, .int .i64 0]) (ps := [(0, .int .i64 5), (1, .int .i64 1), (2, str (Sp.lower v2))]) (fun a ha => by simp [evalC, ha.ev (x := .tmp 11) rfl]) kR) rfl ?_
 have hsz := hG.size
 have hgl := hr.lt
 refine W.alloc z53 rfl fun w q hqz hX hv => ?_
 have hr := hr.grN hv
 have hG := hG.trans (hv.no _)
 have hgq : g < q := by omega
 have hqw : w0.heap.size ≤ q := by omega
 refine W.storeAll ag53 rfl rfl hX rfl rfl (by intro v hv; simp only [List.mem_cons, List.not_mem_nil, or_false] at hv; rcases hv with rfl | rfl | rfl | rfl | rfl | rfl | rfl | rfl <;> rfl) fun w hX hs => ?_
 have hr := hr.gr hs sM
 have hG := hG.fresh hs hqw
 refine nsqr<|pr 1 rfl<|eN en24 rfl (spaces_calls g ⟨s, p2, b2, u2, ps⟩ _ hr hb sO) fun v w hv => ?_
 obtain ⟨v3, p3, b3, u3, e3, hp3a, hp3b, hb3, hu3, rfl, hr, hv⟩ := spl (Sp.spaces_le ⟨s, p2, b2, u2, ps⟩ okk) hv
 have hG := hG.trans hv
 have hX := hX.gr hv au
 refine nsq<|qr<|pr 2 rfl<|fA fo38_2 rfl<|lD sc4 hr rfl rfl<|ns<|cC rfl (fun h4 => ?_) (fun h4 => ?_)
 ·try simp only [Bool.not_eq_true', Bool.not_eq_false'] at h4
  subst h4
  have hr : RK g s p3 true u3 ps _ := hr
  refine qr<|pr 1 rfl<|eN en28 rfl (fail_calls g s p3 true u3 ps _ hr) fun v w hv => ?_
  obtain ⟨hO, hr, hv⟩ := hv
  have hO := own_mono hO hG.size
  have hG := hG.trans hv
  have hX := hX.gr hv au
  have hr : RK g s p3 true u3 ps _ := hr
  refine pr 1 rfl<|nsth<|rA rfl rfl ?_
  rw [Sp.attrib_1 e1 e2 e3 rfl]
  exact ⟨hO, hr, hG⟩
 try simp only [Bool.not_eq_true', Bool.not_eq_false'] at h4
 subst h4
 have hr : RK g s p3 false u3 ps _ := hr
 refine ksq<|qr<|pr 1 rfl<|eN en18 rfl (taken_calls g ⟨s, p3, false, u3, ps⟩ _ hr hb sO [93] dC) fun v w hv => ?_
 obtain ⟨v5, p5, b5, u5, e5, hp5a, hp5b, hb5, hu5, rfl, hr, hv⟩ := spl (Sp.taken_le ⟨s, p3, false, u3, ps⟩ [93] okk) hv
 have hG := hG.trans hv
 have hX := hX.gr hv au
 refine ns<|cC rfl (fun h6 => ?_) (fun h6 => ?_)
 ·try simp only [Bool.not_eq_true', Bool.not_eq_false'] at h6
  subst h6
  have hr : RK g s p5 b5 u5 ps _ := hr
  refine qr<|qq (R.loadAgg (k := 8) (vs := SelN.cells (⟨5, 1, (Sp.lower v2), [], 0, 0, 0⟩) 0) ag53 rfl hX (Nat.le_refl 8) rfl) rfl<|eN en19 rfl (SelMade0 (⟨5, 1, (Sp.lower v2), [], 0, 0, 0⟩) _) fun v w hv => ?_
  obtain ⟨hO, hv⟩ := hv
  have hO := own_mono hO hG.size
  have hr := hr.grN hv
  have hG := hG.trans (hv.no _)
  have hX := hX.gr hv au
  refine pr 1 rfl<|nsth<|rA rfl rfl ?_
  rw [Sp.attrib_2 e1 e2 e3 rfl e5]
  exact ⟨hO, hr, hG⟩
 try simp only [Bool.not_eq_true', Bool.not_eq_false'] at h6
 subst h6
 have hr : RK g s p5 b5 u5 ps _ := hr
 refine ksqr<|W.buildSlice (ps := (Sp.signs.map str).zipIdx.map fun p => (p.2, p.1)) (fun a ha => by kernel_rfl) rowSigns rfl fun w bs hbsz hL hv => ?_
 have hsz2 := hG.size
 have hG := hG.trans (hv.no _)
 have hgl2 := hr.lt
 have hql2 := hX.lt
 have hX := hX.grN hv
 have hgbs : g < bs := by omega
 have hqbs : q < bs := by omega
 have hr := hr.grN hv
 refine pr 1 rfl<|nsq<|qr<|pr 1 rfl<|ns<|rO<|sB [(0, pP g), (3, pP q), (4, .slice (some ⟨bs, 0, none⟩) 9 9), (5, .int .i64 ((2 : Nat) : Int))] rfl<|C.loop (fun m l w' => ∃ (i o p : Nat) (b u : Bool), l = [(0, pP g), (3, pP q), (4, .slice (some ⟨bs, 0, none⟩) 9 9), (5, .int .i64 (i : Int))] ∧ Blk w' q 53 [.int .i64 5, .int .i64 (o : Int), str (Sp.lower v2), str [], .int .i64 0, .int .i64 0, .int .i64 0, .int .i64 0] ∧ Blk w' bs 9 (Sp.signs.map str) ∧ RD g ⟨s, p, b, u, ps⟩ w' ∧ Gr w0 w' (some g) ∧ i + m = 9 ∧ p ≤ s.length + 1 ∧ 2 ≤ i ∧ (o = 1 ∧ (⟨s, p, b, u, ps⟩ : Rd) = ⟨s, p5, b5, u5, ps⟩ ∧ Sp.signGo ⟨s, p5, b5, u5, ps⟩ m i = Sp.signGo ⟨s, p5, b5, u5, ps⟩ 7 2 ∨ ¬ o = 1 ∧ Sp.signGo ⟨s, p5, b5, u5, ps⟩ 7 2 = (o, ⟨s, p, b, u, ps⟩))) (7) (⟨2, 1, _, _, _, rfl, hX, hL, hr, hG, om, om, om, Or.inl ⟨rfl, rfl, rfl⟩⟩) ?_
 rintro m l w ⟨i, o, p, b, u, rfl, hX, hL, hr, hG, hm, hpl, hi2, hS⟩
 have hr : RK g s p b u ps _ := hr
 refine qqr<|pr 2 rfl<|qq (R.lenL rfl slq106) rfl<|qq (R.ltI rfl rfl) rfl<|ns<|cD rfl (fun h7 => ?_) fun h7 => ?_
 ·try norm_cast at h7
  refine ksq<|rO<|qr<|fA fo53_1 rfl<|lD sc3 hX rfl rfl<|W.split (R.eqI rfl rfl) rfl rfl rfl (fun h8 => ?_) (fun h8 => ?_)
  ·try norm_cast at h8
   refine pr 4 rfl<|gg (R.idxB rfl rfl i rfl om sl106) rfl<|gg (R.load sc9 rfl hL (Sp.signs_cell om)) rfl<|gN rfl en18 rfl (taken_calls g ⟨s, p, b, u, ps⟩ _ hr hb sO (Sp.signs.getD i []) (Sp.signs_len i)) fun v w hv => ?_
   obtain ⟨v9, p9, b9, u9, e9, hp9a, hp9b, hb9, hu9, rfl, hr, hv⟩ := spl (Sp.taken_le ⟨s, p, b, u, ps⟩ (Sp.signs.getD i []) okk) hv
   have hG := hG.trans hv
   have hL := hL.gr hv au
   have hX := hX.gr hv au
   refine pr 1 rfl<|ns<|cC rfl (fun h10 => ?_) (fun h10 => ?_)
   ·try simp only [Bool.not_eq_true', Bool.not_eq_false'] at h10
    subst h10
    have hr : RK g s p9 b9 u9 ps _ := hr
    refine rR<|pr 1 rfl<|fA fo53_1 rfl<|sT sc3 hX rfl fun w hX hs => ?_
    have hr := hr.gr hs sM
    have hL := hL.gr hs sM
    have hr : RK g s p9 b9 u9 ps _ := hr
    have hG := hG.fresh hs hqw
    refine nbs<|rR<|pr 1 rfl<|aK rfl rfl<|pr 1 rfl<|rN ?_
    obtain ⟨m, rfl⟩ := sU m
    rcases hS with ⟨ho, hR, hS⟩ | ⟨ho, _⟩
    ·subst ho
     rw [← hR] at hS
     rw [Sp.signGo, if_pos (by rw [e9]), e9, hR] at hS
     exact cT [(0, pP g), (3, pP q), (4, .slice (some ⟨bs, 0, none⟩) 9 9), (5, .int .i64 ((i + 1 : Nat) : Int))] rfl ⟨m, om, i + 1, i, _, _, _, rfl, hX, hL, hr, hG, om, om, om, Or.inr ⟨om, hS.symm⟩⟩
    omega
   try simp only [Bool.not_eq_true', Bool.not_eq_false'] at h10
   subst h10
   have hr : RK g s p9 b9 u9 ps _ := hr
   refine rK<|bS<|rR<|pr 1 rfl<|aK rfl rfl<|pr 1 rfl<|rN ?_
   obtain ⟨m, rfl⟩ := sU m
   rcases hS with ⟨ho, hR, hS⟩ | ⟨ho, _⟩
   ·subst ho
    have hno := Sp.taken_no e9
    rw [← hR] at hS
    rw [Sp.signGo, if_neg (by rw [e9]; exact Bool.false_ne_true), hR] at hS
    exact cT [(0, pP g), (3, pP q), (4, .slice (some ⟨bs, 0, none⟩) 9 9), (5, .int .i64 ((i + 1 : Nat) : Int))] rfl ⟨m, om, i + 1, 1, _, _, _, rfl, hX, hL, hr, hG, om, om, om, Or.inl ⟨rfl, hno.trans hR, hS⟩⟩
   omega
  try norm_cast at h8
  refine pr 8 rfl<|ns<|cF rfl<|rK<|bS<|rR<|pr 1 rfl<|aK rfl rfl<|pr 1 rfl<|rN ?_
  obtain ⟨m, rfl⟩ := sU m
  have hS2 := hS.resolve_left (fun hq => by omega)
  exact cT [(0, pP g), (3, pP q), (4, .slice (some ⟨bs, 0, none⟩) 9 9), (5, .int .i64 ((i + 1 : Nat) : Int))] rfl ⟨m, om, i + 1, o, _, _, _, rfl, hX, hL, hr, hG, om, om, om, Or.inr hS2⟩
 try norm_cast at h7
 refine rE<|rX<|rX<|rY<|sq<|rQ ?_
 have hm0 : m = 0 := by omega
 subst hm0
 have hSG : Sp.signGo ⟨s, p5, b5, u5, ps⟩ 7 2 = (o, ⟨s, p, b, u, ps⟩) := by
  rcases hS with ⟨ho, hR, hS⟩ | ⟨_, hS⟩
  ·subst ho; rw [← hS, ← hR]; rfl
  exact hS
 refine rR<|fA fo53_1 rfl<|lD sc3 hX rfl rfl<|qq (R.eqI rfl rfl) rfl<|ns<|cD rfl (fun h11 => ?_) fun h11 => ?_
 ·try norm_cast at h11
  refine qr<|pr 3 rfl<|fA fo38_3 rfl<|W.splitB (R.load sc4 rfl hr rfl) rfl rfl rfl (fun h12 => ?_) (fun h12 => ?_)
  ·subst h12
   have hr : RK g s p b true ps _ := hr
   refine pr 11 rfl<|fA fo38_3 rfl<|sT sc4 hr rfl fun w hr hs => ?_
   have hL := hL.gr hs sM
   have hX := hX.gr hs sM
   have hr : RK g s p b true ps _ := hr
   have hG := hG.trans hs
   refine nsqr<|pr 1 rfl<|eN en28 rfl (fail_calls g s p b true ps _ hr) fun v w hv => ?_
   obtain ⟨hO, hr, hv⟩ := hv
   have hO := own_mono hO hG.size
   have hG := hG.trans hv
   have hL := hL.gr hv au
   have hX := hX.gr hv au
   have hr : RK g s p true true ps _ := hr
   refine pr 1 rfl<|nsth<|rA rfl rfl ?_
   have ho1 : o = 1 := by omega
   subst ho1
   rw [Sp.attrib_3 e1 e2 e3 rfl e5 hSG]
   refine ⟨hO, hr.cast ?_, hG⟩
   simp [Rd.cells, Rd.orUns, Rd.refuse, h7, h11]
  subst h12
  have hr : RK g s p b false ps _ := hr
  refine pr 2 rfl<|gN rfl en26 rfl (nx_calls g s p b false ps _ hr hb om) fun v w hv => ?_
  obtain ⟨rfl, hv⟩ := hv
  have hr := hr.grN hv
  have hG := hG.trans (hv.no _)
  have hnx := Sp.nx_lt s (p)
  have hL := hL.gr hv au
  have hX := hX.gr hv au
  refine gg (R.eqI rfl rfl) rfl<|W.split (R.pickF rfl rfl) rfl rfl rfl (fun h13 => ?_) (fun h13 => ?_)
  ·try norm_cast at h13
   refine pr 6 rfl<|fA fo38_3 rfl<|sT sc4 hr rfl fun w hr hs => ?_
   have hL := hL.gr hs sM
   have hX := hX.gr hs sM
   have hr : RK g s p b true ps _ := hr
   have hG := hG.trans hs
   refine nsqr<|pr 1 rfl<|eN en28 rfl (fail_calls g s p b true ps _ hr) fun v w hv => ?_
   obtain ⟨hO, hr, hv⟩ := hv
   have hO := own_mono hO hG.size
   have hG := hG.trans hv
   have hL := hL.gr hv au
   have hX := hX.gr hv au
   have hr : RK g s p true true ps _ := hr
   refine pr 1 rfl<|nsth<|rA rfl rfl ?_
   have ho1 : o = 1 := by omega
   subst ho1
   rw [Sp.attrib_3 e1 e2 e3 rfl e5 hSG]
   refine ⟨hO, hr.cast ?_, hG⟩
   simp [Rd.cells, Rd.orUns, Rd.refuse, h7, h11, h13]
  try norm_cast at h13
  refine pr 2 rfl<|gN rfl en26 rfl (nx_calls g s p b false ps _ hr hb om) fun v w hv => ?_
  obtain ⟨rfl, hv⟩ := hv
  have hr := hr.grN hv
  have hG := hG.trans (hv.no _)
  have hnx := Sp.nx_lt s (p)
  have hL := hL.gr hv au
  have hX := hX.gr hv au
  refine W.gsplit rfl (R.eqI rfl rfl) rfl rfl rfl (fun h14 => ?_) (fun h14 => ?_)
  ·try norm_cast at h14
   refine pr 2 rfl<|fA fo38_3 rfl<|sT sc4 hr rfl fun w hr hs => ?_
   have hL := hL.gr hs sM
   have hX := hX.gr hs sM
   have hr : RK g s p b true ps _ := hr
   have hG := hG.trans hs
   refine nsqr<|pr 1 rfl<|eN en28 rfl (fail_calls g s p b true ps _ hr) fun v w hv => ?_
   obtain ⟨hO, hr, hv⟩ := hv
   have hO := own_mono hO hG.size
   have hG := hG.trans hv
   have hL := hL.gr hv au
   have hX := hX.gr hv au
   have hr : RK g s p true true ps _ := hr
   refine pr 1 rfl<|nsth<|rA rfl rfl ?_
   have ho1 : o = 1 := by omega
   subst ho1
   rw [Sp.attrib_3 e1 e2 e3 rfl e5 hSG]
   refine ⟨hO, hr.cast ?_, hG⟩
   simp [Rd.cells, Rd.orUns, Rd.refuse, h7, h11, h13, h14]
  try norm_cast at h14
  refine pr 2 rfl<|fA fo38_3 rfl<|sT sc4 hr rfl fun w hr hs => ?_
  have hL := hL.gr hs sM
  have hX := hX.gr hs sM
  have hr : RK g s p b false ps _ := hr
  have hG := hG.trans hs
  refine nsqr<|pr 1 rfl<|eN en28 rfl (fail_calls g s p b false ps _ hr) fun v w hv => ?_
  obtain ⟨hO, hr, hv⟩ := hv
  have hO := own_mono hO hG.size
  have hG := hG.trans hv
  have hL := hL.gr hv au
  have hX := hX.gr hv au
  have hr : RK g s p true false ps _ := hr
  refine pr 1 rfl<|nsth<|rA rfl rfl ?_
  have ho1 : o = 1 := by omega
  subst ho1
  rw [Sp.attrib_3 e1 e2 e3 rfl e5 hSG]
  refine ⟨hO, hr.cast ?_, hG⟩
  simp [Rd.cells, Rd.orUns, Rd.refuse, h7, h11, h13, h14]
 try norm_cast at h11
 refine ksqr<|pr 1 rfl<|eN en24 rfl (spaces_calls g ⟨s, p, b, u, ps⟩ _ hr hb sO) fun v w hv => ?_
 obtain ⟨v15, p15, b15, u15, e15, hp15a, hp15b, hb15, hu15, rfl, hr, hv⟩ := spl (Sp.spaces_le ⟨s, p, b, u, ps⟩ okk) hv
 have hG := hG.trans hv
 have hL := hL.gr hv au
 have hX := hX.gr hv au
 refine nsqr<|pr 1 rfl<|eN en56 rfl (value_calls g s p15 b15 u15 ps _ hr hb om) fun v w hv => ?_
 obtain ⟨v16, p16, b16, u16, e16, hp16a, hp16b, hb16, hu16, hl16, rfl, hr, hv⟩ := spl2 (Sp.value_le ⟨s, p15, b15, u15, ps⟩ okk) hv
 have hG := hG.trans hv
 have hL := hL.gr hv au
 have hX := hX.gr hv au
 refine fA fo53_3 rfl<|sT sc9 hX rfl fun w hX hs => ?_
 have hr := hr.gr hs sM
 have hL := hL.gr hs sM
 have hr : RK g s p16 b16 u16 ps _ := hr
 have hG := hG.fresh hs hqw
 refine nsqr<|pr 1 rfl<|eN en24 rfl (spaces_calls g ⟨s, p16, b16, u16, ps⟩ _ hr hb sO) fun v w hv => ?_
 obtain ⟨v17, p17, b17, u17, e17, hp17a, hp17b, hb17, hu17, rfl, hr, hv⟩ := spl (Sp.spaces_le ⟨s, p16, b16, u16, ps⟩ okk) hv
 have hG := hG.trans hv
 have hL := hL.gr hv au
 have hX := hX.gr hv au
 refine nsq<|qr<|pr 1 rfl<|eN en26 rfl (nx_calls g s p17 b17 u17 ps _ hr hb om) fun v w hv => ?_
 obtain ⟨rfl, hv⟩ := hv
 have hr := hr.grN hv
 have hG := hG.trans (hv.no _)
 have hnx := Sp.nx_lt s (p17)
 have hL := hL.gr hv au
 have hX := hX.gr hv au
 refine pr 1 rfl<|nsqr<|pr 2 rfl<|fA fo38_2 rfl<|W.splitB (R.load sc4 rfl hr rfl) rfl rfl rfl (fun h18 => ?_) (fun h18 => ?_)
 ·subst h18
  have hr : RK g s p17 true u17 ps _ := hr
  refine pr 9 rfl<|ns<|cF rfl<|qr<|pr 1 rfl<|W.split (R.eqI rfl rfl) rfl rfl rfl (fun h19 => ?_) (fun h19 => ?_)
  ·try norm_cast at h19
   refine pr 4 rfl<|ns<|cV rfl<|rR<|pr 2 rfl<|fA fo38_3 rfl<|sT sc4 hr rfl fun w hr hs => ?_
   have hL := hL.gr hs sM
   have hX := hX.gr hs sM
   have hr : RK g s p17 true true ps _ := hr
   have hG := hG.trans hs
   refine nsq<|qr<|pr 1 rfl<|eN en18 rfl (taken_calls g ⟨s, p17, true, true, ps⟩ _ hr hb sO [93] dC) fun v w hv => ?_
   obtain ⟨v20, p20, b20, u20, e20, hp20a, hp20b, hb20, hu20, rfl, hr, hv⟩ := spl (Sp.taken_le ⟨s, p17, true, true, ps⟩ [93] okk) hv
   have hG := hG.trans hv
   have hL := hL.gr hv au
   have hX := hX.gr hv au
   refine pr 1 rfl<|ns<|cC rfl (fun h21 => ?_) (fun h21 => ?_)
   ·try simp only [Bool.not_eq_true', Bool.not_eq_false'] at h21
    subst h21
    have hr : RK g s p20 b20 u20 ps _ := hr
    refine qr<|pr 1 rfl<|eN en28 rfl (fail_calls g s p20 b20 u20 ps _ hr) fun v w hv => ?_
    obtain ⟨hO, hr, hv⟩ := hv
    have hO := own_mono hO hG.size
    have hG := hG.trans hv
    have hL := hL.gr hv au
    have hX := hX.gr hv au
    have hr : RK g s p20 true u20 ps _ := hr
    refine pr 1 rfl<|nsth<|rA rfl rfl ?_
    have e9 := Sp.attrib_4 (fl := 0) e1 e2 e3 rfl e5 hSG om e15 e16 e17 (by first | (simp [Rd.adv, Rd.unsure, h7, h11, h19]; done) | (simp [Rd.adv, Rd.unsure, h7, h11, h19]; rfl)) e20
    rw [e9]
    exact ⟨hO, hr, hG⟩
   try simp only [Bool.not_eq_true', Bool.not_eq_false'] at h21
   subst h21
   have hr : RK g s p20 b20 u20 ps _ := hr
   refine ksqr<|qq (R.loadAgg (k := 8) (vs := SelN.cells (⟨5, o, (Sp.lower v2), v16, 0, 0, 0⟩) 0) ag53 rfl hX (Nat.le_refl 8) rfl) rfl<|eN en19 rfl (SelMade0 (⟨5, o, (Sp.lower v2), v16, 0, 0, 0⟩) _) fun v w hv => ?_
   obtain ⟨hO, hv⟩ := hv
   have hO := own_mono hO hG.size
   have hr := hr.grN hv
   have hG := hG.trans (hv.no _)
   have hL := hL.gr hv au
   have hX := hX.gr hv au
   refine pr 1 rfl<|nst<|rA rfl rfl ?_
   have e9 := Sp.attrib_4 (fl := 0) e1 e2 e3 rfl e5 hSG om e15 e16 e17 (by first | (simp [Rd.adv, Rd.unsure, h7, h11, h19]; done) | (simp [Rd.adv, Rd.unsure, h7, h11, h19]; rfl)) e20
   rw [e9]
   exact ⟨hO, hr, hG⟩
  try norm_cast at h19
  refine pr 2 rfl<|gg (R.eqI rfl rfl) rfl<|pr 1 rfl<|ns<|cD rfl (fun h22 => ?_) fun h22 => ?_
  ·try norm_cast at h22
   refine rR<|pr 2 rfl<|fA fo38_3 rfl<|sT sc4 hr rfl fun w hr hs => ?_
   have hL := hL.gr hs sM
   have hX := hX.gr hs sM
   have hr : RK g s p17 true true ps _ := hr
   have hG := hG.trans hs
   refine nsq<|qr<|pr 1 rfl<|eN en18 rfl (taken_calls g ⟨s, p17, true, true, ps⟩ _ hr hb sO [93] dC) fun v w hv => ?_
   obtain ⟨v23, p23, b23, u23, e23, hp23a, hp23b, hb23, hu23, rfl, hr, hv⟩ := spl (Sp.taken_le ⟨s, p17, true, true, ps⟩ [93] okk) hv
   have hG := hG.trans hv
   have hL := hL.gr hv au
   have hX := hX.gr hv au
   refine pr 1 rfl<|ns<|cC rfl (fun h24 => ?_) (fun h24 => ?_)
   ·try simp only [Bool.not_eq_true', Bool.not_eq_false'] at h24
    subst h24
    have hr : RK g s p23 b23 u23 ps _ := hr
    refine qr<|pr 1 rfl<|eN en28 rfl (fail_calls g s p23 b23 u23 ps _ hr) fun v w hv => ?_
    obtain ⟨hO, hr, hv⟩ := hv
    have hO := own_mono hO hG.size
    have hG := hG.trans hv
    have hL := hL.gr hv au
    have hX := hX.gr hv au
    have hr : RK g s p23 true u23 ps _ := hr
    refine pr 1 rfl<|nsth<|rA rfl rfl ?_
    have e9 := Sp.attrib_4 (fl := 0) e1 e2 e3 rfl e5 hSG om e15 e16 e17 (by first | (simp [Rd.adv, Rd.unsure, h7, h11, h19, h22]; done) | (simp [Rd.adv, Rd.unsure, h7, h11, h19, h22]; rfl)) e23
    rw [e9]
    exact ⟨hO, hr, hG⟩
   try simp only [Bool.not_eq_true', Bool.not_eq_false'] at h24
   subst h24
   have hr : RK g s p23 b23 u23 ps _ := hr
   refine ksqr<|qq (R.loadAgg (k := 8) (vs := SelN.cells (⟨5, o, (Sp.lower v2), v16, 0, 0, 0⟩) 0) ag53 rfl hX (Nat.le_refl 8) rfl) rfl<|eN en19 rfl (SelMade0 (⟨5, o, (Sp.lower v2), v16, 0, 0, 0⟩) _) fun v w hv => ?_
   obtain ⟨hO, hv⟩ := hv
   have hO := own_mono hO hG.size
   have hr := hr.grN hv
   have hG := hG.trans (hv.no _)
   have hL := hL.gr hv au
   have hX := hX.gr hv au
   refine pr 1 rfl<|nst<|rA rfl rfl ?_
   have e9 := Sp.attrib_4 (fl := 0) e1 e2 e3 rfl e5 hSG om e15 e16 e17 (by first | (simp [Rd.adv, Rd.unsure, h7, h11, h19, h22]; done) | (simp [Rd.adv, Rd.unsure, h7, h11, h19, h22]; rfl)) e23
   rw [e9]
   exact ⟨hO, hr, hG⟩
  try norm_cast at h22
  refine ksq<|qr<|pr 1 rfl<|eN en18 rfl (taken_calls g ⟨s, p17, true, u17, ps⟩ _ hr hb sO [93] dC) fun v w hv => ?_
  obtain ⟨v25, p25, b25, u25, e25, hp25a, hp25b, hb25, hu25, rfl, hr, hv⟩ := spl (Sp.taken_le ⟨s, p17, true, u17, ps⟩ [93] okk) hv
  have hG := hG.trans hv
  have hL := hL.gr hv au
  have hX := hX.gr hv au
  refine pr 1 rfl<|ns<|cC rfl (fun h26 => ?_) (fun h26 => ?_)
  ·try simp only [Bool.not_eq_true', Bool.not_eq_false'] at h26
   subst h26
   have hr : RK g s p25 b25 u25 ps _ := hr
   refine qr<|pr 1 rfl<|eN en28 rfl (fail_calls g s p25 b25 u25 ps _ hr) fun v w hv => ?_
   obtain ⟨hO, hr, hv⟩ := hv
   have hO := own_mono hO hG.size
   have hG := hG.trans hv
   have hL := hL.gr hv au
   have hX := hX.gr hv au
   have hr : RK g s p25 true u25 ps _ := hr
   refine pr 1 rfl<|nsth<|rA rfl rfl ?_
   have e9 := Sp.attrib_4 (fl := 0) e1 e2 e3 rfl e5 hSG om e15 e16 e17 (by first | (simp [Rd.adv, Rd.unsure, h7, h11, h19, h22]; done) | (simp [Rd.adv, Rd.unsure, h7, h11, h19, h22]; rfl)) e25
   rw [e9]
   exact ⟨hO, hr, hG⟩
  try simp only [Bool.not_eq_true', Bool.not_eq_false'] at h26
  subst h26
  have hr : RK g s p25 b25 u25 ps _ := hr
  refine ksqr<|qq (R.loadAgg (k := 8) (vs := SelN.cells (⟨5, o, (Sp.lower v2), v16, 0, 0, 0⟩) 0) ag53 rfl hX (Nat.le_refl 8) rfl) rfl<|eN en19 rfl (SelMade0 (⟨5, o, (Sp.lower v2), v16, 0, 0, 0⟩) _) fun v w hv => ?_
  obtain ⟨hO, hv⟩ := hv
  have hO := own_mono hO hG.size
  have hr := hr.grN hv
  have hG := hG.trans (hv.no _)
  have hL := hL.gr hv au
  have hX := hX.gr hv au
  refine pr 1 rfl<|nst<|rA rfl rfl ?_
  have e9 := Sp.attrib_4 (fl := 0) e1 e2 e3 rfl e5 hSG om e15 e16 e17 (by first | (simp [Rd.adv, Rd.unsure, h7, h11, h19, h22]; done) | (simp [Rd.adv, Rd.unsure, h7, h11, h19, h22]; rfl)) e25
  rw [e9]
  exact ⟨hO, hr, hG⟩
 subst h18
 have hr : RK g s p17 false u17 ps _ := hr
 refine pr 3 rfl<|W.gsplit rfl (R.eqI rfl rfl) rfl rfl rfl (fun h27 => ?_) (fun h27 => ?_)
 ·try norm_cast at h27
  refine pr 5 rfl<|ns<|cV rfl<|rQ ?_
  have hps := Sp.nx_pos (s := s) (p := p17) om
  refine rR<|pr 2 rfl<|fA fo38_1 rfl<|lD sc3 hr rfl rfl<|aK rfl rfl<|pr 1 rfl<|fA fo38_1 rfl<|sT sc3 hr rfl fun w hr hs => ?_
  have hL := hL.gr hs sM
  have hX := hX.gr hs sM
  have hr : RK g s (p17 + 1) false u17 ps _ := hr
  have hG := hG.trans hs
  refine nsqr<|fA fo53_6 rfl<|sT sc3 hX rfl fun w hX hs => ?_
  have hr := hr.gr hs sM
  have hL := hL.gr hs sM
  have hr : RK g s (p17 + 1) false u17 ps _ := hr
  have hG := hG.fresh hs hqw
  refine nsr<|pr 1 rfl<|eN en24 rfl (spaces_calls g ⟨s, p17 + 1, false, u17, ps⟩ _ hr hb sO) fun v w hv => ?_
  obtain ⟨v28, p28, b28, u28, e28, hp28a, hp28b, hb28, hu28, rfl, hr, hv⟩ := spl (Sp.spaces_le ⟨s, p17 + 1, false, u17, ps⟩ okk) hv
  have hG := hG.trans hv
  have hL := hL.gr hv au
  have hX := hX.gr hv au
  refine nsq<|qr<|pr 1 rfl<|eN en18 rfl (taken_calls g ⟨s, p28, b28, u28, ps⟩ _ hr hb sO [93] dC) fun v w hv => ?_
  obtain ⟨v29, p29, b29, u29, e29, hp29a, hp29b, hb29, hu29, rfl, hr, hv⟩ := spl (Sp.taken_le ⟨s, p28, b28, u28, ps⟩ [93] okk) hv
  have hG := hG.trans hv
  have hL := hL.gr hv au
  have hX := hX.gr hv au
  refine pr 1 rfl<|ns<|cC rfl (fun h30 => ?_) (fun h30 => ?_)
  ·try simp only [Bool.not_eq_true', Bool.not_eq_false'] at h30
   subst h30
   have hr : RK g s p29 b29 u29 ps _ := hr
   refine qr<|pr 1 rfl<|eN en28 rfl (fail_calls g s p29 b29 u29 ps _ hr) fun v w hv => ?_
   obtain ⟨hO, hr, hv⟩ := hv
   have hO := own_mono hO hG.size
   have hG := hG.trans hv
   have hL := hL.gr hv au
   have hX := hX.gr hv au
   have hr : RK g s p29 true u29 ps _ := hr
   refine pr 1 rfl<|nsth<|rA rfl rfl ?_
   have e9 := Sp.attrib_4 (fl := 1) e1 e2 e3 rfl e5 hSG om e15 e16 e17 (by first | (simp [Rd.adv, Rd.unsure, h7, h11, h27, e28]; done) | (simp [Rd.adv, Rd.unsure, h7, h11, h27, e28]; rfl)) e29
   rw [e9]
   exact ⟨hO, hr, hG⟩
  try simp only [Bool.not_eq_true', Bool.not_eq_false'] at h30
  subst h30
  have hr : RK g s p29 b29 u29 ps _ := hr
  refine ksqr<|qq (R.loadAgg (k := 8) (vs := SelN.cells (⟨5, o, (Sp.lower v2), v16, 0, 0, 1⟩) 0) ag53 rfl hX (Nat.le_refl 8) rfl) rfl<|eN en19 rfl (SelMade0 (⟨5, o, (Sp.lower v2), v16, 0, 0, 1⟩) _) fun v w hv => ?_
  obtain ⟨hO, hv⟩ := hv
  have hO := own_mono hO hG.size
  have hr := hr.grN hv
  have hG := hG.trans (hv.no _)
  have hL := hL.gr hv au
  have hX := hX.gr hv au
  refine pr 1 rfl<|nst<|rA rfl rfl ?_
  have e9 := Sp.attrib_4 (fl := 1) e1 e2 e3 rfl e5 hSG om e15 e16 e17 (by first | (simp [Rd.adv, Rd.unsure, h7, h11, h27, e28]; done) | (simp [Rd.adv, Rd.unsure, h7, h11, h27, e28]; rfl)) e29
  rw [e9]
  exact ⟨hO, hr, hG⟩
 try norm_cast at h27
 refine pr 2 rfl<|gg (R.eqI rfl rfl) rfl<|pr 2 rfl<|ns<|cD rfl (fun h31 => ?_) fun h31 => ?_
 ·try norm_cast at h31
  refine rQ ?_
  have hps := Sp.nx_pos (s := s) (p := p17) om
  refine rR<|pr 2 rfl<|fA fo38_1 rfl<|lD sc3 hr rfl rfl<|aK rfl rfl<|pr 1 rfl<|fA fo38_1 rfl<|sT sc3 hr rfl fun w hr hs => ?_
  have hL := hL.gr hs sM
  have hX := hX.gr hs sM
  have hr : RK g s (p17 + 1) false u17 ps _ := hr
  have hG := hG.trans hs
  refine nsqr<|fA fo53_6 rfl<|sT sc3 hX rfl fun w hX hs => ?_
  have hr := hr.gr hs sM
  have hL := hL.gr hs sM
  have hr : RK g s (p17 + 1) false u17 ps _ := hr
  have hG := hG.fresh hs hqw
  refine nsr<|pr 1 rfl<|eN en24 rfl (spaces_calls g ⟨s, p17 + 1, false, u17, ps⟩ _ hr hb sO) fun v w hv => ?_
  obtain ⟨v32, p32, b32, u32, e32, hp32a, hp32b, hb32, hu32, rfl, hr, hv⟩ := spl (Sp.spaces_le ⟨s, p17 + 1, false, u17, ps⟩ okk) hv
  have hG := hG.trans hv
  have hL := hL.gr hv au
  have hX := hX.gr hv au
  refine nsq<|qr<|pr 1 rfl<|eN en18 rfl (taken_calls g ⟨s, p32, b32, u32, ps⟩ _ hr hb sO [93] dC) fun v w hv => ?_
  obtain ⟨v33, p33, b33, u33, e33, hp33a, hp33b, hb33, hu33, rfl, hr, hv⟩ := spl (Sp.taken_le ⟨s, p32, b32, u32, ps⟩ [93] okk) hv
  have hG := hG.trans hv
  have hL := hL.gr hv au
  have hX := hX.gr hv au
  refine pr 1 rfl<|ns<|cC rfl (fun h34 => ?_) (fun h34 => ?_)
  ·try simp only [Bool.not_eq_true', Bool.not_eq_false'] at h34
   subst h34
   have hr : RK g s p33 b33 u33 ps _ := hr
   refine qr<|pr 1 rfl<|eN en28 rfl (fail_calls g s p33 b33 u33 ps _ hr) fun v w hv => ?_
   obtain ⟨hO, hr, hv⟩ := hv
   have hO := own_mono hO hG.size
   have hG := hG.trans hv
   have hL := hL.gr hv au
   have hX := hX.gr hv au
   have hr : RK g s p33 true u33 ps _ := hr
   refine pr 1 rfl<|nsth<|rA rfl rfl ?_
   have e9 := Sp.attrib_4 (fl := 1) e1 e2 e3 rfl e5 hSG om e15 e16 e17 (by first | (simp [Rd.adv, Rd.unsure, h7, h11, h27, h31, e32]; done) | (simp [Rd.adv, Rd.unsure, h7, h11, h27, h31, e32]; rfl)) e33
   rw [e9]
   exact ⟨hO, hr, hG⟩
  try simp only [Bool.not_eq_true', Bool.not_eq_false'] at h34
  subst h34
  have hr : RK g s p33 b33 u33 ps _ := hr
  refine ksqr<|qq (R.loadAgg (k := 8) (vs := SelN.cells (⟨5, o, (Sp.lower v2), v16, 0, 0, 1⟩) 0) ag53 rfl hX (Nat.le_refl 8) rfl) rfl<|eN en19 rfl (SelMade0 (⟨5, o, (Sp.lower v2), v16, 0, 0, 1⟩) _) fun v w hv => ?_
  obtain ⟨hO, hv⟩ := hv
  have hO := own_mono hO hG.size
  have hr := hr.grN hv
  have hG := hG.trans (hv.no _)
  have hL := hL.gr hv au
  have hX := hX.gr hv au
  refine pr 1 rfl<|nst<|rA rfl rfl ?_
  have e9 := Sp.attrib_4 (fl := 1) e1 e2 e3 rfl e5 hSG om e15 e16 e17 (by first | (simp [Rd.adv, Rd.unsure, h7, h11, h27, h31, e32]; done) | (simp [Rd.adv, Rd.unsure, h7, h11, h27, h31, e32]; rfl)) e33
  rw [e9]
  exact ⟨hO, hr, hG⟩
 try norm_cast at h31
 refine qr<|pr 1 rfl<|W.split (R.eqI rfl rfl) rfl rfl rfl (fun h35 => ?_) (fun h35 => ?_)
 ·try norm_cast at h35
  refine pr 4 rfl<|ns<|cV rfl<|rR<|pr 2 rfl<|fA fo38_3 rfl<|sT sc4 hr rfl fun w hr hs => ?_
  have hL := hL.gr hs sM
  have hX := hX.gr hs sM
  have hr : RK g s p17 false true ps _ := hr
  have hG := hG.trans hs
  refine nsq<|qr<|pr 1 rfl<|eN en18 rfl (taken_calls g ⟨s, p17, false, true, ps⟩ _ hr hb sO [93] dC) fun v w hv => ?_
  obtain ⟨v36, p36, b36, u36, e36, hp36a, hp36b, hb36, hu36, rfl, hr, hv⟩ := spl (Sp.taken_le ⟨s, p17, false, true, ps⟩ [93] okk) hv
  have hG := hG.trans hv
  have hL := hL.gr hv au
  have hX := hX.gr hv au
  refine pr 1 rfl<|ns<|cC rfl (fun h37 => ?_) (fun h37 => ?_)
  ·try simp only [Bool.not_eq_true', Bool.not_eq_false'] at h37
   subst h37
   have hr : RK g s p36 b36 u36 ps _ := hr
   refine qr<|pr 1 rfl<|eN en28 rfl (fail_calls g s p36 b36 u36 ps _ hr) fun v w hv => ?_
   obtain ⟨hO, hr, hv⟩ := hv
   have hO := own_mono hO hG.size
   have hG := hG.trans hv
   have hL := hL.gr hv au
   have hX := hX.gr hv au
   have hr : RK g s p36 true u36 ps _ := hr
   refine pr 1 rfl<|nsth<|rA rfl rfl ?_
   have e9 := Sp.attrib_4 (fl := 0) e1 e2 e3 rfl e5 hSG om e15 e16 e17 (by first | (simp [Rd.adv, Rd.unsure, h7, h11, h27, h31, h35]; done) | (simp [Rd.adv, Rd.unsure, h7, h11, h27, h31, h35]; rfl)) e36
   rw [e9]
   exact ⟨hO, hr, hG⟩
  try simp only [Bool.not_eq_true', Bool.not_eq_false'] at h37
  subst h37
  have hr : RK g s p36 b36 u36 ps _ := hr
  refine ksqr<|qq (R.loadAgg (k := 8) (vs := SelN.cells (⟨5, o, (Sp.lower v2), v16, 0, 0, 0⟩) 0) ag53 rfl hX (Nat.le_refl 8) rfl) rfl<|eN en19 rfl (SelMade0 (⟨5, o, (Sp.lower v2), v16, 0, 0, 0⟩) _) fun v w hv => ?_
  obtain ⟨hO, hv⟩ := hv
  have hO := own_mono hO hG.size
  have hr := hr.grN hv
  have hG := hG.trans (hv.no _)
  have hL := hL.gr hv au
  have hX := hX.gr hv au
  refine pr 1 rfl<|nst<|rA rfl rfl ?_
  have e9 := Sp.attrib_4 (fl := 0) e1 e2 e3 rfl e5 hSG om e15 e16 e17 (by first | (simp [Rd.adv, Rd.unsure, h7, h11, h27, h31, h35]; done) | (simp [Rd.adv, Rd.unsure, h7, h11, h27, h31, h35]; rfl)) e36
  rw [e9]
  exact ⟨hO, hr, hG⟩
 try norm_cast at h35
 refine pr 2 rfl<|gg (R.eqI rfl rfl) rfl<|pr 1 rfl<|ns<|cD rfl (fun h38 => ?_) fun h38 => ?_
 ·try norm_cast at h38
  refine rR<|pr 2 rfl<|fA fo38_3 rfl<|sT sc4 hr rfl fun w hr hs => ?_
  have hL := hL.gr hs sM
  have hX := hX.gr hs sM
  have hr : RK g s p17 false true ps _ := hr
  have hG := hG.trans hs
  refine nsq<|qr<|pr 1 rfl<|eN en18 rfl (taken_calls g ⟨s, p17, false, true, ps⟩ _ hr hb sO [93] dC) fun v w hv => ?_
  obtain ⟨v39, p39, b39, u39, e39, hp39a, hp39b, hb39, hu39, rfl, hr, hv⟩ := spl (Sp.taken_le ⟨s, p17, false, true, ps⟩ [93] okk) hv
  have hG := hG.trans hv
  have hL := hL.gr hv au
  have hX := hX.gr hv au
  refine pr 1 rfl<|ns<|cC rfl (fun h40 => ?_) (fun h40 => ?_)
  ·try simp only [Bool.not_eq_true', Bool.not_eq_false'] at h40
   subst h40
   have hr : RK g s p39 b39 u39 ps _ := hr
   refine qr<|pr 1 rfl<|eN en28 rfl (fail_calls g s p39 b39 u39 ps _ hr) fun v w hv => ?_
   obtain ⟨hO, hr, hv⟩ := hv
   have hO := own_mono hO hG.size
   have hG := hG.trans hv
   have hL := hL.gr hv au
   have hX := hX.gr hv au
   have hr : RK g s p39 true u39 ps _ := hr
   refine pr 1 rfl<|nsth<|rA rfl rfl ?_
   have e9 := Sp.attrib_4 (fl := 0) e1 e2 e3 rfl e5 hSG om e15 e16 e17 (by first | (simp [Rd.adv, Rd.unsure, h7, h11, h27, h31, h35, h38]; done) | (simp [Rd.adv, Rd.unsure, h7, h11, h27, h31, h35, h38]; rfl)) e39
   rw [e9]
   exact ⟨hO, hr, hG⟩
  try simp only [Bool.not_eq_true', Bool.not_eq_false'] at h40
  subst h40
  have hr : RK g s p39 b39 u39 ps _ := hr
  refine ksqr<|qq (R.loadAgg (k := 8) (vs := SelN.cells (⟨5, o, (Sp.lower v2), v16, 0, 0, 0⟩) 0) ag53 rfl hX (Nat.le_refl 8) rfl) rfl<|eN en19 rfl (SelMade0 (⟨5, o, (Sp.lower v2), v16, 0, 0, 0⟩) _) fun v w hv => ?_
  obtain ⟨hO, hv⟩ := hv
  have hO := own_mono hO hG.size
  have hr := hr.grN hv
  have hG := hG.trans (hv.no _)
  have hL := hL.gr hv au
  have hX := hX.gr hv au
  refine pr 1 rfl<|nst<|rA rfl rfl ?_
  have e9 := Sp.attrib_4 (fl := 0) e1 e2 e3 rfl e5 hSG om e15 e16 e17 (by first | (simp [Rd.adv, Rd.unsure, h7, h11, h27, h31, h35, h38]; done) | (simp [Rd.adv, Rd.unsure, h7, h11, h27, h31, h35, h38]; rfl)) e39
  rw [e9]
  exact ⟨hO, hr, hG⟩
 try norm_cast at h38
 refine ksq<|qr<|pr 1 rfl<|eN en18 rfl (taken_calls g ⟨s, p17, false, u17, ps⟩ _ hr hb sO [93] dC) fun v w hv => ?_
 obtain ⟨v41, p41, b41, u41, e41, hp41a, hp41b, hb41, hu41, rfl, hr, hv⟩ := spl (Sp.taken_le ⟨s, p17, false, u17, ps⟩ [93] okk) hv
 have hG := hG.trans hv
 have hL := hL.gr hv au
 have hX := hX.gr hv au
 refine pr 1 rfl<|ns<|cC rfl (fun h42 => ?_) (fun h42 => ?_)
 ·try simp only [Bool.not_eq_true', Bool.not_eq_false'] at h42
  subst h42
  have hr : RK g s p41 b41 u41 ps _ := hr
  refine qr<|pr 1 rfl<|eN en28 rfl (fail_calls g s p41 b41 u41 ps _ hr) fun v w hv => ?_
  obtain ⟨hO, hr, hv⟩ := hv
  have hO := own_mono hO hG.size
  have hG := hG.trans hv
  have hL := hL.gr hv au
  have hX := hX.gr hv au
  have hr : RK g s p41 true u41 ps _ := hr
  refine pr 1 rfl<|nsth<|rA rfl rfl ?_
  have e9 := Sp.attrib_4 (fl := 0) e1 e2 e3 rfl e5 hSG om e15 e16 e17 (by first | (simp [Rd.adv, Rd.unsure, h7, h11, h27, h31, h35, h38]; done) | (simp [Rd.adv, Rd.unsure, h7, h11, h27, h31, h35, h38]; rfl)) e41
  rw [e9]
  exact ⟨hO, hr, hG⟩
 try simp only [Bool.not_eq_true', Bool.not_eq_false'] at h42
 subst h42
 have hr : RK g s p41 b41 u41 ps _ := hr
 refine ksqr<|qq (R.loadAgg (k := 8) (vs := SelN.cells (⟨5, o, (Sp.lower v2), v16, 0, 0, 0⟩) 0) ag53 rfl hX (Nat.le_refl 8) rfl) rfl<|eN en19 rfl (SelMade0 (⟨5, o, (Sp.lower v2), v16, 0, 0, 0⟩) _) fun v w hv => ?_
 obtain ⟨hO, hv⟩ := hv
 have hO := own_mono hO hG.size
 have hr := hr.grN hv
 have hG := hG.trans (hv.no _)
 have hL := hL.gr hv au
 have hX := hX.gr hv au
 refine pr 1 rfl<|nst<|rA rfl rfl ?_
 have e9 := Sp.attrib_4 (fl := 0) e1 e2 e3 rfl e5 hSG om e15 e16 e17 (by first | (simp [Rd.adv, Rd.unsure, h7, h11, h27, h31, h35, h38]; done) | (simp [Rd.adv, Rd.unsure, h7, h11, h27, h31, h35, h38]; rfl)) e41
 rw [e9]
 exact ⟨hO, hr, hG⟩
def Made (g : Nat) (w0 : World) (M : ST × Rd) (v : Value) (w' : World) : Prop := w'.ownsRow w0.heap.size 53 8 v M.1.cnt M.1.enc ∧ RD g M.2 w' ∧ Gr w0 w' (some g)
def GrpOk (g : Nat) (s : List UInt8) (ps : Bool) (grp : Rd → ST × Rd) (lo : Nat) : Prop := ∀ (p : Nat) (b u : Bool) (w : World), lo ≤ p → p ≤ s.length + 1 → RD g ⟨s, p, b, u, ps⟩ w → CR PR 10 [pP g, .bool true, .bool false] w (Made g w (grp ⟨s, p, b, u, ps⟩))
theorem Sp.count_split (s : List UInt8) (p : Nat) (b u ps : Bool) (h : p ≤ s.length + 1) : ∃ x y p' b' u', Sp.count ⟨s, p, b, u, ps⟩ = (x, y, ⟨s, p', b', u', ps⟩) ∧ p ≤ p' ∧ p' ≤ s.length + 1 := by
 have h1 := Sp.count_le ⟨s, p, b, u, ps⟩ h
 generalize Sp.count ⟨s, p, b, u, ps⟩ = x at *
 obtain ⟨x, y, r⟩ := x
 obtain ⟨p', b', u', e, h3, h4, -⟩ := h1.is
 simp only at e
 subst e
 exact ⟨x, y, p', b', u', rfl, h3, h4⟩
theorem row28 (v : Value) (h : v.oneCell' = true) : rowOf PR 28 1 [(0, v)] = some (22, [v]) := by
 cases v <;> first | (simp [Value.oneCell'] at h; done) | kernel_rfl
mutual
theorem ST.enc_one : (t : ST) → ∀ v ∈ t.enc, v.oneCell' = true
 | .node x l => by
  intro v hv
  rw [ST.enc, List.mem_append] at hv
  rcases hv with hv | hv
  ·exact SelN.cells_one _ _ v hv
  exact ST.encL_one l v hv
theorem ST.encL_one : (l : List ST) → ∀ v ∈ ST.encL l, v.oneCell' = true
 | [] => fun v hv => by simp [ST.encL] at hv
 | t :: r => by
  intro v hv
  rw [ST.encL, List.mem_append] at hv
  rcases hv with hv | hv
  ·exact ST.enc_one t v hv
  exact ST.encL_one r v hv
end
theorem SelMade1 (X : SelN) (t : ST) (kv : Value) (kb cap : Nat) (w0 : World) (hc : w0.cell? ⟨kb, 0, none⟩ = some kv) (hk : w0.ownsRow 0 53 8 kv t.cnt t.enc) (hs : t.cnt ≤ 90000) : CR PR 19 [.agg (X.cells 0).toArray, .slice (some ⟨kb, 0, none⟩) 1 cap] w0 fun v w' => w'.ownsRow w0.heap.size 53 8 v (ST.node X [t]).cnt (ST.node X [t]).enc ∧ Gr w0 w' none :=
 (SelMade_calls X 0 (some ⟨kb, 0, none⟩) cap [(kv, t.cnt, t.enc)] w0 (fun j p h => by
  cases j with
  | zero => simp at h; subst h; exact ⟨kb, rfl, hc⟩
  | succ j => simp at h) (fun p h => by simp at h; subst h; exact hk) (fun p h => by simp at h; subst h; exact ST.enc_one t) (by simp) (by simp [sumN]; omega)).mono fun v w' h => ⟨by simpa [ST.cnt, ST.enc, ST.cntL, ST.encL, sumN, sumX] using h.1, h.2⟩
theorem SelMadeNil (X : SelN) (kb cap : Nat) (w0 : World) (hc : w0.cell? ⟨kb, 0, none⟩ = some (.slice none 0 0)) : CR PR 19 [.agg (X.cells 0).toArray, .slice (some ⟨kb, 0, none⟩) 1 cap] w0 fun v w' => w'.ownsRow w0.heap.size 53 8 v (ST.node X []).cnt (ST.node X []).enc ∧ Gr w0 w' none :=
 (SelMade_calls X 0 (some ⟨kb, 0, none⟩) cap [(.slice none 0 0, 0, [])] w0 (fun j p h => by
  cases j with
  | zero => simp at h; subst h; exact ⟨kb, rfl, hc⟩
  | succ j => simp at h) (fun p h => by simp at h; subst h; exact World.ownsRow_nil _ _ _ _) (fun p h => by simp at h; subst h; simp) (by simp) (by simp [sumN])).mono fun v w' h => ⟨by simpa [ST.cnt, ST.enc, ST.cntL, ST.encL, sumN, sumX] using h.1, h.2⟩
theorem Sp.beqF {a b : Nat} (h : ¬ a = b) : (a == b) = false := by simp [h]
def Own (w : World) (b m cap : Nat) (xs : List Value) : Prop := w.ownsRow 0 53 8 (.slice (some ⟨b, 0, none⟩) m cap) m xs
theorem Own.gr {w w' : World} {b m cap : Nat} {xs : List Value} {r : Option Nat} (h : Own w b m cap xs) (hg : Gr w w' r) (hn : some b ≠ r) : Own w' b m cap xs := own_kept h hg (.inr hn)
theorem Own.grN {w w' : World} {b m cap : Nat} {xs : List Value} (h : Own w b m cap xs) (hg : Gr w w' none) : Own w' b m cap xs := own_grN h hg
def KidOk (g : Nat) (kv : Value) (kids : List ST) (w : World) : Prop := (kv = .slice none 0 0 ∧ kids = []) ∨ ∃ bk cap t, kv = .slice (some ⟨bk, 0, none⟩) t.cnt cap ∧ kids = [t] ∧ Own w bk t.cnt cap t.enc ∧ t.cnt ≤ 90000 ∧ g < bk
theorem KidOk.gr {g : Nat} {kv : Value} {kids : List ST} {w w' : World} {r : Option Nat} (h : KidOk g kv kids w) (hg : Gr w w' r) (hn : r = none ∨ r = some g) : KidOk g kv kids w' := by
 rcases h with h | ⟨bk, cap, t, h1, h2, h3, h4, h5⟩
 ·exact .inl h
 refine .inr ⟨bk, cap, t, h1, h2, h3.gr hg ?_, h4, h5⟩
 rcases hn with rfl | rfl
 ·simp
 simp; omega
theorem KidOk.grN {g : Nat} {kv : Value} {kids : List ST} {w w' : World} (h : KidOk g kv kids w) (hg : Gr w w' none) : KidOk g kv kids w' := h.gr hg (.inl rfl)
theorem KidOk.one {g : Nat} {kv : Value} {kids : List ST} {w : World} (h : KidOk g kv kids w) : kv.oneCell' = true := by
 rcases h with ⟨rfl, -⟩ | ⟨bk, cap, t, rfl, -⟩ <;> rfl
theorem SelMadeG {g : Nat} {kv : Value} {kids : List ST} (X : SelN) (kb cap : Nat) (w0 : World) (hc : w0.cell? ⟨kb, 0, none⟩ = some kv) (hk : KidOk g kv kids w0) : CR PR 19 [.agg (X.cells 0).toArray, .slice (some ⟨kb, 0, none⟩) 1 cap] w0 fun v w' => w'.ownsRow w0.heap.size 53 8 v (ST.node X kids).cnt (ST.node X kids).enc ∧ Gr w0 w' none := by
 rcases hk with ⟨rfl, rfl⟩ | ⟨bk, cap', t, rfl, rfl, h3, h4, -⟩
 ·exact SelMadeNil X kb cap w0 hc
 exact SelMade1 X t _ kb cap w0 hc h3 h4
theorem argument_some (g : Nat) (s : List UInt8) (p0 : Nat) (b0 u0 ps : Bool) (w0 : World) (hr : RD g ⟨s, p0, b0, u0, ps⟩ w0) (hb : s.length ≤ 1000) (hp : p0 ≤ s.length + 1) (grp : Rd → ST × Rd) (kind fl : Nat) (hfl : fl ≤ 3) :
 CR PR 60 [pP g, .int .i64 (kind : Int), .int .i64 (fl : Int)] w0 fun v w' => Made g w0 (Sp.argument grp kind (some fl) ⟨s, p0, b0, u0, ps⟩) v w' := by
 have hr : RK g s p0 b0 u0 ps _ := hr
 have hG : Gr w0 w0 (some g) := Gr.refl _ _
 refine CR.of (n := 123) [(0, pP g), (1, .int .i64 (kind : Int)), (2, .int .i64 (fl : Int))] Tryz.func60 rfl Tryz.ntmps60 rfl ⟨rfl, rfl, rfl, trivial⟩<|qr<|pr 1 rfl<|nsqr<|pr 1 rfl<|qq (R.build (vs := (SelN.mk1 (kind)).cells 0) (ps := [(0, .int .i64 (kind : Int))]) (fun a ha => by simp [ha.ev (x := .tmp 11) rfl]) kR) rfl ?_
 have hsz := hG.size
 have hgl := hr.lt
 refine W.alloc z53 rfl fun w q hqz hX hv => ?_
 have hr := hr.grN hv
 have hG := hG.trans (hv.no _)
 have hgq : g < q := by omega
 have hqw : w0.heap.size ≤ q := by omega
 refine W.storeAll ag53 rfl rfl hX rfl rfl (SelN.cells_one _ _) fun w hX hs => ?_
 have hr := hr.gr hs sM
 have hG := hG.fresh hs hqw
 refine nsqr<|pr 1 rfl<|nsq<|rO<|qr<|pr 1 rfl<|qq (R.geI rfl rfl) rfl<|pr 1 rfl<|ns<|cD rfl (fun h1 => ?_) fun h1 => ?_
 ·refine qr<|pr 1 rfl<|fA fo53_0 rfl<|sT sc3 hX rfl fun w hX hs => ?_
  have hr := hr.gr hs au
  have hr : RK g s p0 b0 u0 ps _ := hr
  have hG := hG.fresh hs hqw
  refine fA fo53_6 rfl<|sT sc3 hX rfl fun w hX hs => ?_
  have hr := hr.gr hs au
  have hr : RK g s p0 b0 u0 ps _ := hr
  have hG := hG.fresh hs hqw
  refine nsqr<|pr 1 rfl<|eN en24 rfl (spaces_calls g ⟨s, p0, b0, u0, ps⟩ _ hr hb sO) fun v w hv => ?_
  obtain ⟨v2, p2, b2, u2, e2, hp2a, hp2b, hb2, hu2⟩ := Sp.Le.split (f := Sp.spaces ⟨s, p0, b0, u0, ps⟩) (Sp.spaces_le ⟨s, p0, b0, u0, ps⟩ okk)
  obtain ⟨hv1, hro, hv⟩ := hv
  rw [e2] at hv1 hro
  have hv1 : v = .bool v2 := hv1
  subst hv1
  clear hr
  have hr : RD g ⟨s, p2, b2, u2, ps⟩ w := hro
  clear hro
  have hG := hG.trans hv
  have hX := hX.gr hv au
  have hr : RK g s p2 b2 u2 ps _ := hr
  refine nsqr<|pr 1 rfl<|eN en73 rfl (count_calls g s p2 b2 u2 ps _ hr hb om) fun v w hv => ?_
  obtain ⟨a3, c3, p3, b3, u3, e3, hp3a, hp3b⟩ := Sp.count_split s p2 b2 u2 ps om
  obtain ⟨hv1, hro, hv⟩ := hv
  rw [e3] at hv1 hro
  have hv1 : v = .tuple #[.int .i64 a3, .int .i64 c3] := hv1
  subst hv1
  clear hr
  have hr : RD g ⟨s, p3, b3, u3, ps⟩ w := hro
  clear hro
  have hG := hG.trans hv
  have hX := hX.gr hv au
  have hr : RK g s p3 b3 u3 ps _ := hr
  refine pr 3 rfl<|fA fo53_4 rfl<|sT sc3 hX rfl fun w hX hs => ?_
  have hr := hr.gr hs au
  have hr : RK g s p3 b3 u3 ps _ := hr
  have hG := hG.fresh hs hqw
  refine fA fo53_5 rfl<|sT sc3 hX rfl fun w hX hs => ?_
  have hr := hr.gr hs au
  have hr : RK g s p3 b3 u3 ps _ := hr
  have hG := hG.fresh hs hqw
  refine nsr<|pr 1 rfl<|eN en24 rfl (spaces_calls g ⟨s, p3, b3, u3, ps⟩ _ hr hb sO) fun v w hv => ?_
  obtain ⟨v4, p4, b4, u4, e4, hp4a, hp4b, hb4, hu4⟩ := Sp.Le.split (f := Sp.spaces ⟨s, p3, b3, u3, ps⟩) (Sp.spaces_le ⟨s, p3, b3, u3, ps⟩ okk)
  obtain ⟨hv1, hro, hv⟩ := hv
  rw [e4] at hv1 hro
  have hv1 : v = .bool v4 := hv1
  subst hv1
  clear hr
  have hr : RD g ⟨s, p4, b4, u4, ps⟩ w := hro
  clear hro
  have hG := hG.trans hv
  have hX := hX.gr hv au
  have hr : RK g s p4 b4 u4 ps _ := hr
  refine nbs<|qqr<|pr 2 rfl<|fA fo38_2 rfl<|W.splitB (R.load sc4 rfl hr rfl) rfl rfl rfl (fun h5 => ?_) (fun h5 => ?_)
  ·subst h5
   have hr : RK g s p4 true u4 ps _ := hr
   refine pr 5 rfl<|ns<|cV rfl<|qr<|pr 1 rfl<|eN en28 rfl (fail_calls g s p4 true u4 ps _ hr) fun v w hv => ?_
   obtain ⟨hO, hr, hv⟩ := hv
   have hO := own_mono hO hG.size
   have hG := hG.trans hv
   have hX := hX.gr hv au
   have hr : RK g s p4 true u4 ps _ := hr
   refine pr 1 rfl<|nsth<|rA rfl rfl ?_
   have E : Sp.argument grp kind (some fl) ⟨s, p0, b0, u0, ps⟩ = (Sp.failed, ⟨s, p4, true, u4, ps⟩) := by
    first | (simp [Sp.argument, Sp.closed, Sp.fail, Rd.refuse, Rd.unsure, Rd.orUns, SelN.mk1, e2, e3, e4, h1]; done) | (simp [Sp.argument, Sp.closed, Sp.fail, Rd.refuse, Rd.unsure, Rd.orUns, SelN.mk1, e2, e3, e4, h1, Sp.beqF h1]; done)
   rw [E]
   exact ⟨hO, hr, hG⟩
  subst h5
  have hr : RK g s p4 false u4 ps _ := hr
  refine pr 2 rfl<|gN rfl en18 rfl (taken_calls g ⟨s, p4, false, u4, ps⟩ _ hr hb sO [41] dC) fun v w hv => ?_
  obtain ⟨v6, p6, b6, u6, e6, hp6a, hp6b, hb6, hu6⟩ := Sp.Le.split (f := Sp.taken ⟨s, p4, false, u4, ps⟩ [41]) (Sp.taken_le ⟨s, p4, false, u4, ps⟩ [41] okk)
  obtain ⟨hv1, hro, hv⟩ := hv
  rw [e6] at hv1 hro
  have hv1 : v = .bool v6 := hv1
  subst hv1
  clear hr
  have hr : RD g ⟨s, p6, b6, u6, ps⟩ w := hro
  clear hro
  have hG := hG.trans hv
  have hX := hX.gr hv au
  have hr : RK g s p6 b6 u6 ps _ := hr
  refine pr 2 rfl<|ns<|cC rfl (fun h7 => ?_) (fun h7 => ?_)
  ·try simp only [Bool.not_eq_true', Bool.not_eq_false'] at h7
   subst h7
   have hr : RK g s p6 b6 u6 ps _ := hr
   refine qr<|pr 1 rfl<|eN en28 rfl (fail_calls g s p6 b6 u6 ps _ hr) fun v w hv => ?_
   obtain ⟨hO, hr, hv⟩ := hv
   have hO := own_mono hO hG.size
   have hG := hG.trans hv
   have hX := hX.gr hv au
   have hr : RK g s p6 true u6 ps _ := hr
   refine pr 1 rfl<|nsth<|rA rfl rfl ?_
   have E : Sp.argument grp kind (some fl) ⟨s, p0, b0, u0, ps⟩ = (Sp.failed, ⟨s, p6, true, u6, ps⟩) := by
    first | (simp [Sp.argument, Sp.closed, Sp.fail, Rd.refuse, Rd.unsure, Rd.orUns, SelN.mk1, e2, e3, e4, e6, h1]; done) | (simp [Sp.argument, Sp.closed, Sp.fail, Rd.refuse, Rd.unsure, Rd.orUns, SelN.mk1, e2, e3, e4, e6, h1, Sp.beqF h1]; done)
   rw [E]
   exact ⟨hO, hr, hG⟩
  try simp only [Bool.not_eq_true', Bool.not_eq_false'] at h7
  subst h7
  have hr : RK g s p6 b6 u6 ps _ := hr
  refine ksqr<|qq (R.loadAgg (k := 8) (vs := SelN.cells (⟨6, 0, [], [], a3, c3, fl⟩) 0) ag53 rfl hX (Nat.le_refl 8) rfl) rfl<|pr 1 rfl<|W.buildSlice (ps := [(0, .slice none 0 0)]) (fun a ha => by simp [ha.ev (x := .tmp 120) rfl]) (row28 _ rfl) rfl fun w kb hkz hK hv => ?_
  have hr := hr.grN hv
  have hX := hX.grN hv
  have hG := hG.trans (hv.no _)
  refine eN en19 rfl (SelMadeNil (⟨6, 0, [], [], a3, c3, fl⟩) kb 1 _ (hK.cell rfl)) fun v w hv => ?_
  obtain ⟨hO, hv⟩ := hv
  have hO := own_mono hO hG.size
  have hr := hr.grN hv
  have hG := hG.trans (hv.no _)
  have hX := hX.gr hv au
  refine pr 1 rfl<|nst<|rA rfl rfl ?_
  have E : Sp.argument grp kind (some fl) ⟨s, p0, b0, u0, ps⟩ = (ST.node (⟨6, 0, [], [], a3, c3, fl⟩) [], ⟨s, p6, b6, u6, ps⟩) := by
   first | (simp [Sp.argument, Sp.closed, Sp.fail, Rd.refuse, Rd.unsure, Rd.orUns, SelN.mk1, e2, e3, e4, e6, h1]; done) | (simp [Sp.argument, Sp.closed, Sp.fail, Rd.refuse, Rd.unsure, Rd.orUns, SelN.mk1, e2, e3, e4, e6, h1, Sp.beqF h1]; done)
  rw [E]
  exact ⟨hO, hr, hG⟩
 all_goals (exfalso; omega)
set_option maxHeartbeats 4000000 in
theorem argument_none (g : Nat) (s : List UInt8) (p0 : Nat) (b0 u0 ps : Bool) (w0 : World) (hr : RD g ⟨s, p0, b0, u0, ps⟩ w0) (hb : s.length ≤ 1000) (hp : p0 ≤ s.length + 1) (grp : Rd → ST × Rd) (hgle : ∀ r, Sp.Ok r → Sp.Step 3 r (grp r)) (hgrp : GrpOk g s ps grp p0) (kind : Nat) :
 CR PR 60 [pP g, .int .i64 (kind : Int), .int .i64 (-1)] w0 fun v w' => Made g w0 (Sp.argument grp kind none ⟨s, p0, b0, u0, ps⟩) v w' := by
 have hr : RK g s p0 b0 u0 ps _ := hr
 have hG : Gr w0 w0 (some g) := Gr.refl _ _
 refine CR.of (n := 123) [(0, pP g), (1, .int .i64 (kind : Int)), (2, .int .i64 (-1))] Tryz.func60 rfl Tryz.ntmps60 rfl ⟨rfl, rfl, rfl, trivial⟩<|qr<|pr 1 rfl<|nsqr<|pr 1 rfl<|qq (R.build (vs := (SelN.mk1 (kind)).cells 0) (ps := [(0, .int .i64 (kind : Int))]) (fun a ha => by simp [ha.ev (x := .tmp 11) rfl]) kR) rfl ?_
 have hsz := hG.size
 have hgl := hr.lt
 refine W.alloc z53 rfl fun w q hqz hX hv => ?_
 have hr := hr.grN hv
 have hG := hG.trans (hv.no _)
 have hgq : g < q := by omega
 have hqw : w0.heap.size ≤ q := by omega
 refine W.storeAll ag53 rfl rfl hX rfl rfl (SelN.cells_one _ _) fun w hX hs => ?_
 have hr := hr.gr hs sM
 have hG := hG.fresh hs hqw
 refine nsqr<|pr 1 rfl<|ns<|C.cut (fun l w' => ∃ (p9 : Nat) (b9 u9 : Bool) (X : SelN) (kv : Value) (kids : List ST), l = [(0, pP g), (7, pP q), (8, kv)] ∧ RD g ⟨s, p9, b9, u9, ps⟩ w' ∧ Blk w' q 53 (X.cells 0) ∧ Gr w0 w' (some g) ∧ KidOk g kv kids w' ∧ Sp.argument grp kind none ⟨s, p0, b0, u0, ps⟩ = Sp.closed X kids ⟨s, p9, b9, u9, ps⟩ ∧ p9 ≤ s.length + 1) ?_ ?_
 ·refine rO<|qr<|pr 1 rfl<|qq (R.geI rfl rfl) rfl<|pr 1 rfl<|ns<|cD rfl (fun h1 => ?_) fun h1 => ?_
  ·try norm_cast at h1
   all_goals (exfalso; omega)
  try norm_cast at h1
  refine qr<|pr 1 rfl<|W.split (R.eqI rfl rfl) rfl rfl rfl (fun h2 => ?_) (fun h2 => ?_)
  ·try norm_cast at h2
   refine pr 9 rfl<|ns<|cV rfl<|qr<|pr 1 rfl<|eN en24 rfl (spaces_calls g ⟨s, p0, b0, u0, ps⟩ _ hr hb sO) fun v w hv => ?_
   obtain ⟨v3, p3, b3, u3, e3, hp3a, hp3b, hb3, hu3⟩ := Sp.Le.split (f := Sp.spaces ⟨s, p0, b0, u0, ps⟩) (Sp.spaces_le ⟨s, p0, b0, u0, ps⟩ okk)
   obtain ⟨hv1, hro, hv⟩ := hv
   rw [e3] at hv1 hro
   have hv1 : v = .bool v3 := hv1
   subst hv1
   clear hr
   have hr : RD g ⟨s, p3, b3, u3, ps⟩ w := hro
   clear hro
   have hG := hG.trans hv
   have hX := hX.gr hv au
   have hr : RK g s p3 b3 u3 ps _ := hr
   refine nsq<|qr<|pr 1 rfl<|eN en26 rfl (nx_calls g s p3 b3 u3 ps _ hr hb om) fun v w hv => ?_
   obtain ⟨rfl, hv⟩ := hv
   have hr := hr.grN hv
   have hG := hG.trans (hv.no _)
   have hnx := Sp.nx_lt s (p3)
   have hX := hX.gr hv au
   refine pr 1 rfl<|nsqr<|pr 1 rfl<|W.split (R.eqI rfl rfl) rfl rfl rfl (fun h4 => ?_) (fun h4 => ?_)
   ·try norm_cast at h4
    refine pr 8 rfl<|ns<|cV rfl<|rR<|pr 2 rfl<|fA fo38_3 rfl<|sT sc4 hr rfl fun w hr hs => ?_
    have hX := hX.gr hs au
    have hr : RK g s p3 b3 true ps _ := hr
    have hG := hG.trans hs
    refine ns ?_
    have hXl := hX.lt
    refine rR<|pr 1 rfl<|eN en10 rfl (hgrp p3 b3 true _ om om hr) fun v w hv => ?_
    obtain ⟨t5, p5, b5, u5, e5, hp5a, hp5b, hb5, hu5⟩ := Sp.Le.split (f := grp ⟨s, p3, b3, true, ps⟩) (hgle ⟨s, p3, b3, true, ps⟩ okk).1
    have hc5 : t5.cnt ≤ 3 + 4 * (p5 - (p3)) := by have := (hgle ⟨s, p3, b3, true, ps⟩ okk).2; rw [e5] at this; exact this
    obtain ⟨hO0, hro, hv⟩ := hv
    rw [e5] at hO0 hro
    have hO0 : World.ownsRow w _ 53 8 v t5.cnt t5.enc := hO0
    obtain ⟨bk, capk, rfl⟩ := own_slice hO0 (ST.cnt_pos _)
    have hbk := (hO0.lt bk rfl).1
    have hgbk : g < bk := by omega
    have hOk : Own w bk t5.cnt capk t5.enc := own_mono hO0 (Nat.zero_le _)
    clear hr
    have hr : RD g ⟨s, p5, b5, u5, ps⟩ w := hro
    clear hro
    have hG := hG.trans hv
    have hX := hX.gr hv au
    have hr : RK g s p5 b5 u5 ps _ := hr
    refine pr 1 rfl<|nB ?_
    exact cT [(0, pP g), (7, pP q), (8, .slice (some ⟨bk, 0, none⟩) t5.cnt capk)] rfl ⟨p5, b5, u5, ⟨kind, 0, [], [], 0, 0, 0⟩, _, [t5], rfl, hr, hX, hG, .inr ⟨_, _, _, rfl, rfl, hOk, om, hgbk⟩, by first | (simp [Sp.argument, Rd.unsure, Rd.orUns, SelN.mk1, e3, e5, h1, h2, h4]; done) | (simp [Sp.argument, Rd.unsure, Rd.orUns, SelN.mk1, e3, e5, h1, h2, h4, Sp.beqF h4]; done), om⟩
   try norm_cast at h4
   refine pr 2 rfl<|gg (R.eqI rfl rfl) rfl<|W.split (R.pickF rfl rfl) rfl rfl rfl (fun h6 => ?_) (fun h6 => ?_)
   ·try norm_cast at h6
    refine pr 4 rfl<|ns<|cV rfl<|rR<|pr 2 rfl<|fA fo38_3 rfl<|sT sc4 hr rfl fun w hr hs => ?_
    have hX := hX.gr hs au
    have hr : RK g s p3 b3 true ps _ := hr
    have hG := hG.trans hs
    refine ns ?_
    have hXl := hX.lt
    refine rR<|pr 1 rfl<|eN en10 rfl (hgrp p3 b3 true _ om om hr) fun v w hv => ?_
    obtain ⟨t7, p7, b7, u7, e7, hp7a, hp7b, hb7, hu7⟩ := Sp.Le.split (f := grp ⟨s, p3, b3, true, ps⟩) (hgle ⟨s, p3, b3, true, ps⟩ okk).1
    have hc7 : t7.cnt ≤ 3 + 4 * (p7 - (p3)) := by have := (hgle ⟨s, p3, b3, true, ps⟩ okk).2; rw [e7] at this; exact this
    obtain ⟨hO0, hro, hv⟩ := hv
    rw [e7] at hO0 hro
    have hO0 : World.ownsRow w _ 53 8 v t7.cnt t7.enc := hO0
    obtain ⟨bk, capk, rfl⟩ := own_slice hO0 (ST.cnt_pos _)
    have hbk := (hO0.lt bk rfl).1
    have hgbk : g < bk := by omega
    have hOk : Own w bk t7.cnt capk t7.enc := own_mono hO0 (Nat.zero_le _)
    clear hr
    have hr : RD g ⟨s, p7, b7, u7, ps⟩ w := hro
    clear hro
    have hG := hG.trans hv
    have hX := hX.gr hv au
    have hr : RK g s p7 b7 u7 ps _ := hr
    refine pr 1 rfl<|nB ?_
    exact cT [(0, pP g), (7, pP q), (8, .slice (some ⟨bk, 0, none⟩) t7.cnt capk)] rfl ⟨p7, b7, u7, ⟨kind, 0, [], [], 0, 0, 0⟩, _, [t7], rfl, hr, hX, hG, .inr ⟨_, _, _, rfl, rfl, hOk, om, hgbk⟩, by first | (simp [Sp.argument, Rd.unsure, Rd.orUns, SelN.mk1, e3, e7, h1, h2, h4, h6]; done) | (simp [Sp.argument, Rd.unsure, Rd.orUns, SelN.mk1, e3, e7, h1, h2, h4, h6, Sp.beqF h6]; done), om⟩
   try norm_cast at h6
   refine pr 2 rfl<|gg (R.eqI rfl rfl) rfl<|pr 1 rfl<|ns<|cD rfl (fun h8 => ?_) fun h8 => ?_
   ·try norm_cast at h8
    refine rR<|pr 2 rfl<|fA fo38_3 rfl<|sT sc4 hr rfl fun w hr hs => ?_
    have hX := hX.gr hs au
    have hr : RK g s p3 b3 true ps _ := hr
    have hG := hG.trans hs
    refine ns ?_
    have hXl := hX.lt
    refine rR<|pr 1 rfl<|eN en10 rfl (hgrp p3 b3 true _ om om hr) fun v w hv => ?_
    obtain ⟨t9, p9, b9, u9, e9, hp9a, hp9b, hb9, hu9⟩ := Sp.Le.split (f := grp ⟨s, p3, b3, true, ps⟩) (hgle ⟨s, p3, b3, true, ps⟩ okk).1
    have hc9 : t9.cnt ≤ 3 + 4 * (p9 - (p3)) := by have := (hgle ⟨s, p3, b3, true, ps⟩ okk).2; rw [e9] at this; exact this
    obtain ⟨hO0, hro, hv⟩ := hv
    rw [e9] at hO0 hro
    have hO0 : World.ownsRow w _ 53 8 v t9.cnt t9.enc := hO0
    obtain ⟨bk, capk, rfl⟩ := own_slice hO0 (ST.cnt_pos _)
    have hbk := (hO0.lt bk rfl).1
    have hgbk : g < bk := by omega
    have hOk : Own w bk t9.cnt capk t9.enc := own_mono hO0 (Nat.zero_le _)
    clear hr
    have hr : RD g ⟨s, p9, b9, u9, ps⟩ w := hro
    clear hro
    have hG := hG.trans hv
    have hX := hX.gr hv au
    have hr : RK g s p9 b9 u9 ps _ := hr
    refine pr 1 rfl<|nB ?_
    exact cT [(0, pP g), (7, pP q), (8, .slice (some ⟨bk, 0, none⟩) t9.cnt capk)] rfl ⟨p9, b9, u9, ⟨kind, 0, [], [], 0, 0, 0⟩, _, [t9], rfl, hr, hX, hG, .inr ⟨_, _, _, rfl, rfl, hOk, om, hgbk⟩, by first | (simp [Sp.argument, Rd.unsure, Rd.orUns, SelN.mk1, e3, e9, h1, h2, h4, h6, h8]; done) | (simp [Sp.argument, Rd.unsure, Rd.orUns, SelN.mk1, e3, e9, h1, h2, h4, h6, h8, Sp.beqF h8]; done), om⟩
   try norm_cast at h8
   refine ks ?_
   have hXl := hX.lt
   refine rR<|pr 1 rfl<|eN en10 rfl (hgrp p3 b3 u3 _ om om hr) fun v w hv => ?_
   obtain ⟨t10, p10, b10, u10, e10, hp10a, hp10b, hb10, hu10⟩ := Sp.Le.split (f := grp ⟨s, p3, b3, u3, ps⟩) (hgle ⟨s, p3, b3, u3, ps⟩ okk).1
   have hc10 : t10.cnt ≤ 3 + 4 * (p10 - (p3)) := by have := (hgle ⟨s, p3, b3, u3, ps⟩ okk).2; rw [e10] at this; exact this
   obtain ⟨hO0, hro, hv⟩ := hv
   rw [e10] at hO0 hro
   have hO0 : World.ownsRow w _ 53 8 v t10.cnt t10.enc := hO0
   obtain ⟨bk, capk, rfl⟩ := own_slice hO0 (ST.cnt_pos _)
   have hbk := (hO0.lt bk rfl).1
   have hgbk : g < bk := by omega
   have hOk : Own w bk t10.cnt capk t10.enc := own_mono hO0 (Nat.zero_le _)
   clear hr
   have hr : RD g ⟨s, p10, b10, u10, ps⟩ w := hro
   clear hro
   have hG := hG.trans hv
   have hX := hX.gr hv au
   have hr : RK g s p10 b10 u10 ps _ := hr
   refine pr 1 rfl<|nB ?_
   exact cT [(0, pP g), (7, pP q), (8, .slice (some ⟨bk, 0, none⟩) t10.cnt capk)] rfl ⟨p10, b10, u10, ⟨kind, 0, [], [], 0, 0, 0⟩, _, [t10], rfl, hr, hX, hG, .inr ⟨_, _, _, rfl, rfl, hOk, om, hgbk⟩, by first | (simp [Sp.argument, Rd.unsure, Rd.orUns, SelN.mk1, e3, e10, h1, h2, h4, h6, h8]; done) | (simp [Sp.argument, Rd.unsure, Rd.orUns, SelN.mk1, e3, e10, h1, h2, h4, h6, h8, Sp.beqF h8]; done), om⟩
  try norm_cast at h2
  refine pr 2 rfl<|gg (R.eqI rfl rfl) rfl<|W.split (R.pickF rfl rfl) rfl rfl rfl (fun h11 => ?_) (fun h11 => ?_)
  ·try norm_cast at h11
   refine pr 5 rfl<|ns<|cV rfl<|qr<|pr 1 rfl<|eN en24 rfl (spaces_calls g ⟨s, p0, b0, u0, ps⟩ _ hr hb sO) fun v w hv => ?_
   obtain ⟨v12, p12, b12, u12, e12, hp12a, hp12b, hb12, hu12⟩ := Sp.Le.split (f := Sp.spaces ⟨s, p0, b0, u0, ps⟩) (Sp.spaces_le ⟨s, p0, b0, u0, ps⟩ okk)
   obtain ⟨hv1, hro, hv⟩ := hv
   rw [e12] at hv1 hro
   have hv1 : v = .bool v12 := hv1
   subst hv1
   clear hr
   have hr : RD g ⟨s, p12, b12, u12, ps⟩ w := hro
   clear hro
   have hG := hG.trans hv
   have hX := hX.gr hv au
   have hr : RK g s p12 b12 u12 ps _ := hr
   refine nsq<|qr<|pr 1 rfl<|eN en26 rfl (nx_calls g s p12 b12 u12 ps _ hr hb om) fun v w hv => ?_
   obtain ⟨rfl, hv⟩ := hv
   have hr := hr.grN hv
   have hG := hG.trans (hv.no _)
   have hnx := Sp.nx_lt s (p12)
   have hX := hX.gr hv au
   refine pr 1 rfl<|nsqr<|pr 1 rfl<|W.split (R.eqI rfl rfl) rfl rfl rfl (fun h13 => ?_) (fun h13 => ?_)
   ·try norm_cast at h13
    refine pr 8 rfl<|ns<|cV rfl<|rR<|pr 2 rfl<|fA fo38_3 rfl<|sT sc4 hr rfl fun w hr hs => ?_
    have hX := hX.gr hs au
    have hr : RK g s p12 b12 true ps _ := hr
    have hG := hG.trans hs
    refine ns ?_
    have hXl := hX.lt
    refine rR<|pr 1 rfl<|eN en10 rfl (hgrp p12 b12 true _ om om hr) fun v w hv => ?_
    obtain ⟨t14, p14, b14, u14, e14, hp14a, hp14b, hb14, hu14⟩ := Sp.Le.split (f := grp ⟨s, p12, b12, true, ps⟩) (hgle ⟨s, p12, b12, true, ps⟩ okk).1
    have hc14 : t14.cnt ≤ 3 + 4 * (p14 - (p12)) := by have := (hgle ⟨s, p12, b12, true, ps⟩ okk).2; rw [e14] at this; exact this
    obtain ⟨hO0, hro, hv⟩ := hv
    rw [e14] at hO0 hro
    have hO0 : World.ownsRow w _ 53 8 v t14.cnt t14.enc := hO0
    obtain ⟨bk, capk, rfl⟩ := own_slice hO0 (ST.cnt_pos _)
    have hbk := (hO0.lt bk rfl).1
    have hgbk : g < bk := by omega
    have hOk : Own w bk t14.cnt capk t14.enc := own_mono hO0 (Nat.zero_le _)
    clear hr
    have hr : RD g ⟨s, p14, b14, u14, ps⟩ w := hro
    clear hro
    have hG := hG.trans hv
    have hX := hX.gr hv au
    have hr : RK g s p14 b14 u14 ps _ := hr
    refine pr 1 rfl<|nB ?_
    exact cT [(0, pP g), (7, pP q), (8, .slice (some ⟨bk, 0, none⟩) t14.cnt capk)] rfl ⟨p14, b14, u14, ⟨kind, 0, [], [], 0, 0, 0⟩, _, [t14], rfl, hr, hX, hG, .inr ⟨_, _, _, rfl, rfl, hOk, om, hgbk⟩, by first | (simp [Sp.argument, Rd.unsure, Rd.orUns, SelN.mk1, e12, e14, h1, h2, h11, h13]; done) | (simp [Sp.argument, Rd.unsure, Rd.orUns, SelN.mk1, e12, e14, h1, h2, h11, h13, Sp.beqF h13]; done), om⟩
   try norm_cast at h13
   refine pr 2 rfl<|gg (R.eqI rfl rfl) rfl<|W.split (R.pickF rfl rfl) rfl rfl rfl (fun h15 => ?_) (fun h15 => ?_)
   ·try norm_cast at h15
    refine pr 4 rfl<|ns<|cV rfl<|rR<|pr 2 rfl<|fA fo38_3 rfl<|sT sc4 hr rfl fun w hr hs => ?_
    have hX := hX.gr hs au
    have hr : RK g s p12 b12 true ps _ := hr
    have hG := hG.trans hs
    refine ns ?_
    have hXl := hX.lt
    refine rR<|pr 1 rfl<|eN en10 rfl (hgrp p12 b12 true _ om om hr) fun v w hv => ?_
    obtain ⟨t16, p16, b16, u16, e16, hp16a, hp16b, hb16, hu16⟩ := Sp.Le.split (f := grp ⟨s, p12, b12, true, ps⟩) (hgle ⟨s, p12, b12, true, ps⟩ okk).1
    have hc16 : t16.cnt ≤ 3 + 4 * (p16 - (p12)) := by have := (hgle ⟨s, p12, b12, true, ps⟩ okk).2; rw [e16] at this; exact this
    obtain ⟨hO0, hro, hv⟩ := hv
    rw [e16] at hO0 hro
    have hO0 : World.ownsRow w _ 53 8 v t16.cnt t16.enc := hO0
    obtain ⟨bk, capk, rfl⟩ := own_slice hO0 (ST.cnt_pos _)
    have hbk := (hO0.lt bk rfl).1
    have hgbk : g < bk := by omega
    have hOk : Own w bk t16.cnt capk t16.enc := own_mono hO0 (Nat.zero_le _)
    clear hr
    have hr : RD g ⟨s, p16, b16, u16, ps⟩ w := hro
    clear hro
    have hG := hG.trans hv
    have hX := hX.gr hv au
    have hr : RK g s p16 b16 u16 ps _ := hr
    refine pr 1 rfl<|nB ?_
    exact cT [(0, pP g), (7, pP q), (8, .slice (some ⟨bk, 0, none⟩) t16.cnt capk)] rfl ⟨p16, b16, u16, ⟨kind, 0, [], [], 0, 0, 0⟩, _, [t16], rfl, hr, hX, hG, .inr ⟨_, _, _, rfl, rfl, hOk, om, hgbk⟩, by first | (simp [Sp.argument, Rd.unsure, Rd.orUns, SelN.mk1, e12, e16, h1, h2, h11, h13, h15]; done) | (simp [Sp.argument, Rd.unsure, Rd.orUns, SelN.mk1, e12, e16, h1, h2, h11, h13, h15, Sp.beqF h15]; done), om⟩
   try norm_cast at h15
   refine pr 2 rfl<|gg (R.eqI rfl rfl) rfl<|pr 1 rfl<|ns<|cD rfl (fun h17 => ?_) fun h17 => ?_
   ·try norm_cast at h17
    refine rR<|pr 2 rfl<|fA fo38_3 rfl<|sT sc4 hr rfl fun w hr hs => ?_
    have hX := hX.gr hs au
    have hr : RK g s p12 b12 true ps _ := hr
    have hG := hG.trans hs
    refine ns ?_
    have hXl := hX.lt
    refine rR<|pr 1 rfl<|eN en10 rfl (hgrp p12 b12 true _ om om hr) fun v w hv => ?_
    obtain ⟨t18, p18, b18, u18, e18, hp18a, hp18b, hb18, hu18⟩ := Sp.Le.split (f := grp ⟨s, p12, b12, true, ps⟩) (hgle ⟨s, p12, b12, true, ps⟩ okk).1
    have hc18 : t18.cnt ≤ 3 + 4 * (p18 - (p12)) := by have := (hgle ⟨s, p12, b12, true, ps⟩ okk).2; rw [e18] at this; exact this
    obtain ⟨hO0, hro, hv⟩ := hv
    rw [e18] at hO0 hro
    have hO0 : World.ownsRow w _ 53 8 v t18.cnt t18.enc := hO0
    obtain ⟨bk, capk, rfl⟩ := own_slice hO0 (ST.cnt_pos _)
    have hbk := (hO0.lt bk rfl).1
    have hgbk : g < bk := by omega
    have hOk : Own w bk t18.cnt capk t18.enc := own_mono hO0 (Nat.zero_le _)
    clear hr
    have hr : RD g ⟨s, p18, b18, u18, ps⟩ w := hro
    clear hro
    have hG := hG.trans hv
    have hX := hX.gr hv au
    have hr : RK g s p18 b18 u18 ps _ := hr
    refine pr 1 rfl<|nB ?_
    exact cT [(0, pP g), (7, pP q), (8, .slice (some ⟨bk, 0, none⟩) t18.cnt capk)] rfl ⟨p18, b18, u18, ⟨kind, 0, [], [], 0, 0, 0⟩, _, [t18], rfl, hr, hX, hG, .inr ⟨_, _, _, rfl, rfl, hOk, om, hgbk⟩, by first | (simp [Sp.argument, Rd.unsure, Rd.orUns, SelN.mk1, e12, e18, h1, h2, h11, h13, h15, h17]; done) | (simp [Sp.argument, Rd.unsure, Rd.orUns, SelN.mk1, e12, e18, h1, h2, h11, h13, h15, h17, Sp.beqF h17]; done), om⟩
   try norm_cast at h17
   refine ks ?_
   have hXl := hX.lt
   refine rR<|pr 1 rfl<|eN en10 rfl (hgrp p12 b12 u12 _ om om hr) fun v w hv => ?_
   obtain ⟨t19, p19, b19, u19, e19, hp19a, hp19b, hb19, hu19⟩ := Sp.Le.split (f := grp ⟨s, p12, b12, u12, ps⟩) (hgle ⟨s, p12, b12, u12, ps⟩ okk).1
   have hc19 : t19.cnt ≤ 3 + 4 * (p19 - (p12)) := by have := (hgle ⟨s, p12, b12, u12, ps⟩ okk).2; rw [e19] at this; exact this
   obtain ⟨hO0, hro, hv⟩ := hv
   rw [e19] at hO0 hro
   have hO0 : World.ownsRow w _ 53 8 v t19.cnt t19.enc := hO0
   obtain ⟨bk, capk, rfl⟩ := own_slice hO0 (ST.cnt_pos _)
   have hbk := (hO0.lt bk rfl).1
   have hgbk : g < bk := by omega
   have hOk : Own w bk t19.cnt capk t19.enc := own_mono hO0 (Nat.zero_le _)
   clear hr
   have hr : RD g ⟨s, p19, b19, u19, ps⟩ w := hro
   clear hro
   have hG := hG.trans hv
   have hX := hX.gr hv au
   have hr : RK g s p19 b19 u19 ps _ := hr
   refine pr 1 rfl<|nB ?_
   exact cT [(0, pP g), (7, pP q), (8, .slice (some ⟨bk, 0, none⟩) t19.cnt capk)] rfl ⟨p19, b19, u19, ⟨kind, 0, [], [], 0, 0, 0⟩, _, [t19], rfl, hr, hX, hG, .inr ⟨_, _, _, rfl, rfl, hOk, om, hgbk⟩, by first | (simp [Sp.argument, Rd.unsure, Rd.orUns, SelN.mk1, e12, e19, h1, h2, h11, h13, h15, h17]; done) | (simp [Sp.argument, Rd.unsure, Rd.orUns, SelN.mk1, e12, e19, h1, h2, h11, h13, h15, h17, Sp.beqF h17]; done), om⟩
  try norm_cast at h11
  refine pr 2 rfl<|gg (R.eqI rfl rfl) rfl<|pr 2 rfl<|ns<|cD rfl (fun h20 => ?_) fun h20 => ?_
  ·try norm_cast at h20
   refine qr<|pr 1 rfl<|eN en24 rfl (spaces_calls g ⟨s, p0, b0, u0, ps⟩ _ hr hb sO) fun v w hv => ?_
   obtain ⟨v21, p21, b21, u21, e21, hp21a, hp21b, hb21, hu21⟩ := Sp.Le.split (f := Sp.spaces ⟨s, p0, b0, u0, ps⟩) (Sp.spaces_le ⟨s, p0, b0, u0, ps⟩ okk)
   obtain ⟨hv1, hro, hv⟩ := hv
   rw [e21] at hv1 hro
   have hv1 : v = .bool v21 := hv1
   subst hv1
   clear hr
   have hr : RD g ⟨s, p21, b21, u21, ps⟩ w := hro
   clear hro
   have hG := hG.trans hv
   have hX := hX.gr hv au
   have hr : RK g s p21 b21 u21 ps _ := hr
   refine nsq<|qr<|pr 1 rfl<|eN en26 rfl (nx_calls g s p21 b21 u21 ps _ hr hb om) fun v w hv => ?_
   obtain ⟨rfl, hv⟩ := hv
   have hr := hr.grN hv
   have hG := hG.trans (hv.no _)
   have hnx := Sp.nx_lt s (p21)
   have hX := hX.gr hv au
   refine pr 1 rfl<|nsqr<|pr 1 rfl<|W.split (R.eqI rfl rfl) rfl rfl rfl (fun h22 => ?_) (fun h22 => ?_)
   ·try norm_cast at h22
    refine pr 8 rfl<|ns<|cV rfl<|rR<|pr 2 rfl<|fA fo38_3 rfl<|sT sc4 hr rfl fun w hr hs => ?_
    have hX := hX.gr hs au
    have hr : RK g s p21 b21 true ps _ := hr
    have hG := hG.trans hs
    refine ns ?_
    have hXl := hX.lt
    refine rR<|pr 1 rfl<|eN en10 rfl (hgrp p21 b21 true _ om om hr) fun v w hv => ?_
    obtain ⟨t23, p23, b23, u23, e23, hp23a, hp23b, hb23, hu23⟩ := Sp.Le.split (f := grp ⟨s, p21, b21, true, ps⟩) (hgle ⟨s, p21, b21, true, ps⟩ okk).1
    have hc23 : t23.cnt ≤ 3 + 4 * (p23 - (p21)) := by have := (hgle ⟨s, p21, b21, true, ps⟩ okk).2; rw [e23] at this; exact this
    obtain ⟨hO0, hro, hv⟩ := hv
    rw [e23] at hO0 hro
    have hO0 : World.ownsRow w _ 53 8 v t23.cnt t23.enc := hO0
    obtain ⟨bk, capk, rfl⟩ := own_slice hO0 (ST.cnt_pos _)
    have hbk := (hO0.lt bk rfl).1
    have hgbk : g < bk := by omega
    have hOk : Own w bk t23.cnt capk t23.enc := own_mono hO0 (Nat.zero_le _)
    clear hr
    have hr : RD g ⟨s, p23, b23, u23, ps⟩ w := hro
    clear hro
    have hG := hG.trans hv
    have hX := hX.gr hv au
    have hr : RK g s p23 b23 u23 ps _ := hr
    refine pr 1 rfl<|nB ?_
    exact cT [(0, pP g), (7, pP q), (8, .slice (some ⟨bk, 0, none⟩) t23.cnt capk)] rfl ⟨p23, b23, u23, ⟨kind, 0, [], [], 0, 0, 0⟩, _, [t23], rfl, hr, hX, hG, .inr ⟨_, _, _, rfl, rfl, hOk, om, hgbk⟩, by first | (simp [Sp.argument, Rd.unsure, Rd.orUns, SelN.mk1, e21, e23, h1, h2, h11, h20, h22]; done) | (simp [Sp.argument, Rd.unsure, Rd.orUns, SelN.mk1, e21, e23, h1, h2, h11, h20, h22, Sp.beqF h22]; done), om⟩
   try norm_cast at h22
   refine pr 2 rfl<|gg (R.eqI rfl rfl) rfl<|W.split (R.pickF rfl rfl) rfl rfl rfl (fun h24 => ?_) (fun h24 => ?_)
   ·try norm_cast at h24
    refine pr 4 rfl<|ns<|cV rfl<|rR<|pr 2 rfl<|fA fo38_3 rfl<|sT sc4 hr rfl fun w hr hs => ?_
    have hX := hX.gr hs au
    have hr : RK g s p21 b21 true ps _ := hr
    have hG := hG.trans hs
    refine ns ?_
    have hXl := hX.lt
    refine rR<|pr 1 rfl<|eN en10 rfl (hgrp p21 b21 true _ om om hr) fun v w hv => ?_
    obtain ⟨t25, p25, b25, u25, e25, hp25a, hp25b, hb25, hu25⟩ := Sp.Le.split (f := grp ⟨s, p21, b21, true, ps⟩) (hgle ⟨s, p21, b21, true, ps⟩ okk).1
    have hc25 : t25.cnt ≤ 3 + 4 * (p25 - (p21)) := by have := (hgle ⟨s, p21, b21, true, ps⟩ okk).2; rw [e25] at this; exact this
    obtain ⟨hO0, hro, hv⟩ := hv
    rw [e25] at hO0 hro
    have hO0 : World.ownsRow w _ 53 8 v t25.cnt t25.enc := hO0
    obtain ⟨bk, capk, rfl⟩ := own_slice hO0 (ST.cnt_pos _)
    have hbk := (hO0.lt bk rfl).1
    have hgbk : g < bk := by omega
    have hOk : Own w bk t25.cnt capk t25.enc := own_mono hO0 (Nat.zero_le _)
    clear hr
    have hr : RD g ⟨s, p25, b25, u25, ps⟩ w := hro
    clear hro
    have hG := hG.trans hv
    have hX := hX.gr hv au
    have hr : RK g s p25 b25 u25 ps _ := hr
    refine pr 1 rfl<|nB ?_
    exact cT [(0, pP g), (7, pP q), (8, .slice (some ⟨bk, 0, none⟩) t25.cnt capk)] rfl ⟨p25, b25, u25, ⟨kind, 0, [], [], 0, 0, 0⟩, _, [t25], rfl, hr, hX, hG, .inr ⟨_, _, _, rfl, rfl, hOk, om, hgbk⟩, by first | (simp [Sp.argument, Rd.unsure, Rd.orUns, SelN.mk1, e21, e25, h1, h2, h11, h20, h22, h24]; done) | (simp [Sp.argument, Rd.unsure, Rd.orUns, SelN.mk1, e21, e25, h1, h2, h11, h20, h22, h24, Sp.beqF h24]; done), om⟩
   try norm_cast at h24
   refine pr 2 rfl<|gg (R.eqI rfl rfl) rfl<|pr 1 rfl<|ns<|cD rfl (fun h26 => ?_) fun h26 => ?_
   ·try norm_cast at h26
    refine rR<|pr 2 rfl<|fA fo38_3 rfl<|sT sc4 hr rfl fun w hr hs => ?_
    have hX := hX.gr hs au
    have hr : RK g s p21 b21 true ps _ := hr
    have hG := hG.trans hs
    refine ns ?_
    have hXl := hX.lt
    refine rR<|pr 1 rfl<|eN en10 rfl (hgrp p21 b21 true _ om om hr) fun v w hv => ?_
    obtain ⟨t27, p27, b27, u27, e27, hp27a, hp27b, hb27, hu27⟩ := Sp.Le.split (f := grp ⟨s, p21, b21, true, ps⟩) (hgle ⟨s, p21, b21, true, ps⟩ okk).1
    have hc27 : t27.cnt ≤ 3 + 4 * (p27 - (p21)) := by have := (hgle ⟨s, p21, b21, true, ps⟩ okk).2; rw [e27] at this; exact this
    obtain ⟨hO0, hro, hv⟩ := hv
    rw [e27] at hO0 hro
    have hO0 : World.ownsRow w _ 53 8 v t27.cnt t27.enc := hO0
    obtain ⟨bk, capk, rfl⟩ := own_slice hO0 (ST.cnt_pos _)
    have hbk := (hO0.lt bk rfl).1
    have hgbk : g < bk := by omega
    have hOk : Own w bk t27.cnt capk t27.enc := own_mono hO0 (Nat.zero_le _)
    clear hr
    have hr : RD g ⟨s, p27, b27, u27, ps⟩ w := hro
    clear hro
    have hG := hG.trans hv
    have hX := hX.gr hv au
    have hr : RK g s p27 b27 u27 ps _ := hr
    refine pr 1 rfl<|nB ?_
    exact cT [(0, pP g), (7, pP q), (8, .slice (some ⟨bk, 0, none⟩) t27.cnt capk)] rfl ⟨p27, b27, u27, ⟨kind, 0, [], [], 0, 0, 0⟩, _, [t27], rfl, hr, hX, hG, .inr ⟨_, _, _, rfl, rfl, hOk, om, hgbk⟩, by first | (simp [Sp.argument, Rd.unsure, Rd.orUns, SelN.mk1, e21, e27, h1, h2, h11, h20, h22, h24, h26]; done) | (simp [Sp.argument, Rd.unsure, Rd.orUns, SelN.mk1, e21, e27, h1, h2, h11, h20, h22, h24, h26, Sp.beqF h26]; done), om⟩
   try norm_cast at h26
   refine ks ?_
   have hXl := hX.lt
   refine rR<|pr 1 rfl<|eN en10 rfl (hgrp p21 b21 u21 _ om om hr) fun v w hv => ?_
   obtain ⟨t28, p28, b28, u28, e28, hp28a, hp28b, hb28, hu28⟩ := Sp.Le.split (f := grp ⟨s, p21, b21, u21, ps⟩) (hgle ⟨s, p21, b21, u21, ps⟩ okk).1
   have hc28 : t28.cnt ≤ 3 + 4 * (p28 - (p21)) := by have := (hgle ⟨s, p21, b21, u21, ps⟩ okk).2; rw [e28] at this; exact this
   obtain ⟨hO0, hro, hv⟩ := hv
   rw [e28] at hO0 hro
   have hO0 : World.ownsRow w _ 53 8 v t28.cnt t28.enc := hO0
   obtain ⟨bk, capk, rfl⟩ := own_slice hO0 (ST.cnt_pos _)
   have hbk := (hO0.lt bk rfl).1
   have hgbk : g < bk := by omega
   have hOk : Own w bk t28.cnt capk t28.enc := own_mono hO0 (Nat.zero_le _)
   clear hr
   have hr : RD g ⟨s, p28, b28, u28, ps⟩ w := hro
   clear hro
   have hG := hG.trans hv
   have hX := hX.gr hv au
   have hr : RK g s p28 b28 u28 ps _ := hr
   refine pr 1 rfl<|nB ?_
   exact cT [(0, pP g), (7, pP q), (8, .slice (some ⟨bk, 0, none⟩) t28.cnt capk)] rfl ⟨p28, b28, u28, ⟨kind, 0, [], [], 0, 0, 0⟩, _, [t28], rfl, hr, hX, hG, .inr ⟨_, _, _, rfl, rfl, hOk, om, hgbk⟩, by first | (simp [Sp.argument, Rd.unsure, Rd.orUns, SelN.mk1, e21, e28, h1, h2, h11, h20, h22, h24, h26]; done) | (simp [Sp.argument, Rd.unsure, Rd.orUns, SelN.mk1, e21, e28, h1, h2, h11, h20, h22, h24, h26, Sp.beqF h26]; done), om⟩
  try norm_cast at h20
  refine qr<|pr 1 rfl<|qq (R.eqI rfl rfl) rfl<|pr 1 rfl<|ns<|cD rfl (fun h29 => ?_) fun h29 => ?_
  ·try norm_cast at h29
   refine qr<|pr 1 rfl<|eN en24 rfl (spaces_calls g ⟨s, p0, b0, u0, ps⟩ _ hr hb sO) fun v w hv => ?_
   obtain ⟨v30, p30, b30, u30, e30, hp30a, hp30b, hb30, hu30⟩ := Sp.Le.split (f := Sp.spaces ⟨s, p0, b0, u0, ps⟩) (Sp.spaces_le ⟨s, p0, b0, u0, ps⟩ okk)
   obtain ⟨hv1, hro, hv⟩ := hv
   rw [e30] at hv1 hro
   have hv1 : v = .bool v30 := hv1
   subst hv1
   clear hr
   have hr : RD g ⟨s, p30, b30, u30, ps⟩ w := hro
   clear hro
   have hG := hG.trans hv
   have hX := hX.gr hv au
   have hr : RK g s p30 b30 u30 ps _ := hr
   refine nsq<|qr<|pr 1 rfl<|eN en26 rfl (nx_calls g s p30 b30 u30 ps _ hr hb om) fun v w hv => ?_
   obtain ⟨rfl, hv⟩ := hv
   have hr := hr.grN hv
   have hG := hG.trans (hv.no _)
   have hnx := Sp.nx_lt s (p30)
   have hX := hX.gr hv au
   refine pr 1 rfl<|nsqr<|pr 1 rfl<|W.split (R.eqI rfl rfl) rfl rfl rfl (fun h31 => ?_) (fun h31 => ?_)
   ·try norm_cast at h31
    refine pr 8 rfl<|ns<|cV rfl<|rR<|pr 2 rfl<|fA fo38_3 rfl<|sT sc4 hr rfl fun w hr hs => ?_
    have hX := hX.gr hs au
    have hr : RK g s p30 b30 true ps _ := hr
    have hG := hG.trans hs
    refine nsqr<|pr 2 rfl<|eN en36 rfl (name_calls g s p30 b30 true ps _ hr hb om) fun v w hv => ?_
    obtain ⟨v32, p32, b32, u32, e32, hp32a, hp32b, hb32, hu32⟩ := Sp.Le.split (f := Sp.name ⟨s, p30, b30, true, ps⟩) (Sp.name_le ⟨s, p30, b30, true, ps⟩ okk).1
    have hl32 : v32.length ≤ 4 * (p32 - (p30)) := by have := (Sp.name_le ⟨s, p30, b30, true, ps⟩ okk).2; rw [e32] at this; exact this
    obtain ⟨hv1, hro, hv⟩ := hv
    rw [e32] at hv1 hro
    have hv1 : v = str v32 := hv1
    subst hv1
    clear hr
    have hr : RD g ⟨s, p32, b32, u32, ps⟩ w := hro
    clear hro
    have hG := hG.trans hv
    have hX := hX.gr hv au
    have hr : RK g s p32 b32 u32 ps _ := hr
    refine eN en74 rfl (small_calls g s p32 b32 u32 ps _ hr hb om v32 om) fun v w hv => ?_
    obtain ⟨v33, p33, b33, u33, e33, hp33a, hp33b, hb33, hu33⟩ := Sp.Le.split (f := Sp.small ⟨s, p32, b32, u32, ps⟩ v32) (Sp.small_le ⟨s, p32, b32, u32, ps⟩ v32 okk)
    obtain ⟨hv1, hro, hv⟩ := hv
    rw [e33] at hv1 hro
    have hv1 : v = str v33 := hv1
    subst hv1
    clear hr
    have hr : RD g ⟨s, p33, b33, u33, ps⟩ w := hro
    clear hro
    have hG := hG.trans hv
    have hX := hX.gr hv au
    have hr : RK g s p33 b33 u33 ps _ := hr
    refine fA fo53_3 rfl<|sT sc9 hX rfl fun w hX hs => ?_
    have hr := hr.gr hs au
    have hr : RK g s p33 b33 u33 ps _ := hr
    have hG := hG.fresh hs hqw
    refine nsqr<|pr 1 rfl<|eN en24 rfl (spaces_calls g ⟨s, p33, b33, u33, ps⟩ _ hr hb sO) fun v w hv => ?_
    obtain ⟨v34, p34, b34, u34, e34, hp34a, hp34b, hb34, hu34⟩ := Sp.Le.split (f := Sp.spaces ⟨s, p33, b33, u33, ps⟩) (Sp.spaces_le ⟨s, p33, b33, u33, ps⟩ okk)
    obtain ⟨hv1, hro, hv⟩ := hv
    rw [e34] at hv1 hro
    have hv1 : v = .bool v34 := hv1
    subst hv1
    clear hr
    have hr : RD g ⟨s, p34, b34, u34, ps⟩ w := hro
    clear hro
    have hG := hG.trans hv
    have hX := hX.gr hv au
    have hr : RK g s p34 b34 u34 ps _ := hr
    refine nsr<|pr 3 rfl<|fA fo38_3 rfl<|W.splitB (R.load sc4 rfl hr rfl) rfl rfl rfl (fun h35 => ?_) (fun h35 => ?_)
    ·subst h35
     have hr : RK g s p34 b34 true ps _ := hr
     refine pr 6 rfl<|fA fo38_3 rfl<|sT sc4 hr rfl fun w hr hs => ?_
     have hX := hX.gr hs au
     have hr : RK g s p34 b34 true ps _ := hr
     have hG := hG.trans hs
     refine nB ?_
     exact cT [(0, pP g), (7, pP q), (8, .slice none 0 0)] rfl ⟨p34, b34, true, ⟨kind, 0, [], v33, 0, 0, 0⟩, _, [], rfl, hr, hX, hG, .inl ⟨rfl, rfl⟩, by first | (simp [Sp.argument, Rd.unsure, Rd.orUns, SelN.mk1, e30, e32, e33, e34, h1, h2, h11, h20, h29, h31]; done) | (simp [Sp.argument, Rd.unsure, Rd.orUns, SelN.mk1, e30, e32, e33, e34, h1, h2, h11, h20, h29, h31, Sp.beqF h31]; done), om⟩
    subst h35
    have hr : RK g s p34 b34 false ps _ := hr
    refine pr 2 rfl<|gN rfl en26 rfl (nx_calls g s p34 b34 false ps _ hr hb om) fun v w hv => ?_
    obtain ⟨rfl, hv⟩ := hv
    have hr := hr.grN hv
    have hG := hG.trans (hv.no _)
    have hnx := Sp.nx_lt s (p34)
    have hX := hX.gr hv au
    refine W.gsplit rfl (R.eqI rfl rfl) rfl rfl rfl (fun h36 => ?_) (fun h36 => ?_)
    ·try norm_cast at h36
     refine pr 2 rfl<|fA fo38_3 rfl<|sT sc4 hr rfl fun w hr hs => ?_
     have hX := hX.gr hs au
     have hr : RK g s p34 b34 true ps _ := hr
     have hG := hG.trans hs
     refine nB ?_
     exact cT [(0, pP g), (7, pP q), (8, .slice none 0 0)] rfl ⟨p34, b34, true, ⟨kind, 0, [], v33, 0, 0, 0⟩, _, [], rfl, hr, hX, hG, .inl ⟨rfl, rfl⟩, by first | (simp [Sp.argument, Rd.unsure, Rd.orUns, SelN.mk1, e30, e32, e33, e34, h1, h2, h11, h20, h29, h31, h36]; done) | (simp [Sp.argument, Rd.unsure, Rd.orUns, SelN.mk1, e30, e32, e33, e34, h1, h2, h11, h20, h29, h31, h36, Sp.beqF h36]; done), om⟩
    try norm_cast at h36
    refine pr 2 rfl<|fA fo38_3 rfl<|sT sc4 hr rfl fun w hr hs => ?_
    have hX := hX.gr hs au
    have hr : RK g s p34 b34 false ps _ := hr
    have hG := hG.trans hs
    refine nB ?_
    exact cT [(0, pP g), (7, pP q), (8, .slice none 0 0)] rfl ⟨p34, b34, false, ⟨kind, 0, [], v33, 0, 0, 0⟩, _, [], rfl, hr, hX, hG, .inl ⟨rfl, rfl⟩, by first | (simp [Sp.argument, Rd.unsure, Rd.orUns, SelN.mk1, e30, e32, e33, e34, h1, h2, h11, h20, h29, h31, h36]; done) | (simp [Sp.argument, Rd.unsure, Rd.orUns, SelN.mk1, e30, e32, e33, e34, h1, h2, h11, h20, h29, h31, h36, Sp.beqF h36]; done), om⟩
   try norm_cast at h31
   refine pr 2 rfl<|gg (R.eqI rfl rfl) rfl<|W.split (R.pickF rfl rfl) rfl rfl rfl (fun h37 => ?_) (fun h37 => ?_)
   ·try norm_cast at h37
    refine pr 4 rfl<|ns<|cV rfl<|rR<|pr 2 rfl<|fA fo38_3 rfl<|sT sc4 hr rfl fun w hr hs => ?_
    have hX := hX.gr hs au
    have hr : RK g s p30 b30 true ps _ := hr
    have hG := hG.trans hs
    refine nsqr<|pr 2 rfl<|eN en36 rfl (name_calls g s p30 b30 true ps _ hr hb om) fun v w hv => ?_
    obtain ⟨v38, p38, b38, u38, e38, hp38a, hp38b, hb38, hu38⟩ := Sp.Le.split (f := Sp.name ⟨s, p30, b30, true, ps⟩) (Sp.name_le ⟨s, p30, b30, true, ps⟩ okk).1
    have hl38 : v38.length ≤ 4 * (p38 - (p30)) := by have := (Sp.name_le ⟨s, p30, b30, true, ps⟩ okk).2; rw [e38] at this; exact this
    obtain ⟨hv1, hro, hv⟩ := hv
    rw [e38] at hv1 hro
    have hv1 : v = str v38 := hv1
    subst hv1
    clear hr
    have hr : RD g ⟨s, p38, b38, u38, ps⟩ w := hro
    clear hro
    have hG := hG.trans hv
    have hX := hX.gr hv au
    have hr : RK g s p38 b38 u38 ps _ := hr
    refine eN en74 rfl (small_calls g s p38 b38 u38 ps _ hr hb om v38 om) fun v w hv => ?_
    obtain ⟨v39, p39, b39, u39, e39, hp39a, hp39b, hb39, hu39⟩ := Sp.Le.split (f := Sp.small ⟨s, p38, b38, u38, ps⟩ v38) (Sp.small_le ⟨s, p38, b38, u38, ps⟩ v38 okk)
    obtain ⟨hv1, hro, hv⟩ := hv
    rw [e39] at hv1 hro
    have hv1 : v = str v39 := hv1
    subst hv1
    clear hr
    have hr : RD g ⟨s, p39, b39, u39, ps⟩ w := hro
    clear hro
    have hG := hG.trans hv
    have hX := hX.gr hv au
    have hr : RK g s p39 b39 u39 ps _ := hr
    refine fA fo53_3 rfl<|sT sc9 hX rfl fun w hX hs => ?_
    have hr := hr.gr hs au
    have hr : RK g s p39 b39 u39 ps _ := hr
    have hG := hG.fresh hs hqw
    refine nsqr<|pr 1 rfl<|eN en24 rfl (spaces_calls g ⟨s, p39, b39, u39, ps⟩ _ hr hb sO) fun v w hv => ?_
    obtain ⟨v40, p40, b40, u40, e40, hp40a, hp40b, hb40, hu40⟩ := Sp.Le.split (f := Sp.spaces ⟨s, p39, b39, u39, ps⟩) (Sp.spaces_le ⟨s, p39, b39, u39, ps⟩ okk)
    obtain ⟨hv1, hro, hv⟩ := hv
    rw [e40] at hv1 hro
    have hv1 : v = .bool v40 := hv1
    subst hv1
    clear hr
    have hr : RD g ⟨s, p40, b40, u40, ps⟩ w := hro
    clear hro
    have hG := hG.trans hv
    have hX := hX.gr hv au
    have hr : RK g s p40 b40 u40 ps _ := hr
    refine nsr<|pr 3 rfl<|fA fo38_3 rfl<|W.splitB (R.load sc4 rfl hr rfl) rfl rfl rfl (fun h41 => ?_) (fun h41 => ?_)
    ·subst h41
     have hr : RK g s p40 b40 true ps _ := hr
     refine pr 6 rfl<|fA fo38_3 rfl<|sT sc4 hr rfl fun w hr hs => ?_
     have hX := hX.gr hs au
     have hr : RK g s p40 b40 true ps _ := hr
     have hG := hG.trans hs
     refine nB ?_
     exact cT [(0, pP g), (7, pP q), (8, .slice none 0 0)] rfl ⟨p40, b40, true, ⟨kind, 0, [], v39, 0, 0, 0⟩, _, [], rfl, hr, hX, hG, .inl ⟨rfl, rfl⟩, by first | (simp [Sp.argument, Rd.unsure, Rd.orUns, SelN.mk1, e30, e38, e39, e40, h1, h2, h11, h20, h29, h31, h37]; done) | (simp [Sp.argument, Rd.unsure, Rd.orUns, SelN.mk1, e30, e38, e39, e40, h1, h2, h11, h20, h29, h31, h37, Sp.beqF h37]; done), om⟩
    subst h41
    have hr : RK g s p40 b40 false ps _ := hr
    refine pr 2 rfl<|gN rfl en26 rfl (nx_calls g s p40 b40 false ps _ hr hb om) fun v w hv => ?_
    obtain ⟨rfl, hv⟩ := hv
    have hr := hr.grN hv
    have hG := hG.trans (hv.no _)
    have hnx := Sp.nx_lt s (p40)
    have hX := hX.gr hv au
    refine W.gsplit rfl (R.eqI rfl rfl) rfl rfl rfl (fun h42 => ?_) (fun h42 => ?_)
    ·try norm_cast at h42
     refine pr 2 rfl<|fA fo38_3 rfl<|sT sc4 hr rfl fun w hr hs => ?_
     have hX := hX.gr hs au
     have hr : RK g s p40 b40 true ps _ := hr
     have hG := hG.trans hs
     refine nB ?_
     exact cT [(0, pP g), (7, pP q), (8, .slice none 0 0)] rfl ⟨p40, b40, true, ⟨kind, 0, [], v39, 0, 0, 0⟩, _, [], rfl, hr, hX, hG, .inl ⟨rfl, rfl⟩, by first | (simp [Sp.argument, Rd.unsure, Rd.orUns, SelN.mk1, e30, e38, e39, e40, h1, h2, h11, h20, h29, h31, h37, h42]; done) | (simp [Sp.argument, Rd.unsure, Rd.orUns, SelN.mk1, e30, e38, e39, e40, h1, h2, h11, h20, h29, h31, h37, h42, Sp.beqF h42]; done), om⟩
    try norm_cast at h42
    refine pr 2 rfl<|fA fo38_3 rfl<|sT sc4 hr rfl fun w hr hs => ?_
    have hX := hX.gr hs au
    have hr : RK g s p40 b40 false ps _ := hr
    have hG := hG.trans hs
    refine nB ?_
    exact cT [(0, pP g), (7, pP q), (8, .slice none 0 0)] rfl ⟨p40, b40, false, ⟨kind, 0, [], v39, 0, 0, 0⟩, _, [], rfl, hr, hX, hG, .inl ⟨rfl, rfl⟩, by first | (simp [Sp.argument, Rd.unsure, Rd.orUns, SelN.mk1, e30, e38, e39, e40, h1, h2, h11, h20, h29, h31, h37, h42]; done) | (simp [Sp.argument, Rd.unsure, Rd.orUns, SelN.mk1, e30, e38, e39, e40, h1, h2, h11, h20, h29, h31, h37, h42, Sp.beqF h42]; done), om⟩
   try norm_cast at h37
   refine pr 2 rfl<|gg (R.eqI rfl rfl) rfl<|pr 1 rfl<|ns<|cD rfl (fun h43 => ?_) fun h43 => ?_
   ·try norm_cast at h43
    refine rR<|pr 2 rfl<|fA fo38_3 rfl<|sT sc4 hr rfl fun w hr hs => ?_
    have hX := hX.gr hs au
    have hr : RK g s p30 b30 true ps _ := hr
    have hG := hG.trans hs
    refine nsqr<|pr 2 rfl<|eN en36 rfl (name_calls g s p30 b30 true ps _ hr hb om) fun v w hv => ?_
    obtain ⟨v44, p44, b44, u44, e44, hp44a, hp44b, hb44, hu44⟩ := Sp.Le.split (f := Sp.name ⟨s, p30, b30, true, ps⟩) (Sp.name_le ⟨s, p30, b30, true, ps⟩ okk).1
    have hl44 : v44.length ≤ 4 * (p44 - (p30)) := by have := (Sp.name_le ⟨s, p30, b30, true, ps⟩ okk).2; rw [e44] at this; exact this
    obtain ⟨hv1, hro, hv⟩ := hv
    rw [e44] at hv1 hro
    have hv1 : v = str v44 := hv1
    subst hv1
    clear hr
    have hr : RD g ⟨s, p44, b44, u44, ps⟩ w := hro
    clear hro
    have hG := hG.trans hv
    have hX := hX.gr hv au
    have hr : RK g s p44 b44 u44 ps _ := hr
    refine eN en74 rfl (small_calls g s p44 b44 u44 ps _ hr hb om v44 om) fun v w hv => ?_
    obtain ⟨v45, p45, b45, u45, e45, hp45a, hp45b, hb45, hu45⟩ := Sp.Le.split (f := Sp.small ⟨s, p44, b44, u44, ps⟩ v44) (Sp.small_le ⟨s, p44, b44, u44, ps⟩ v44 okk)
    obtain ⟨hv1, hro, hv⟩ := hv
    rw [e45] at hv1 hro
    have hv1 : v = str v45 := hv1
    subst hv1
    clear hr
    have hr : RD g ⟨s, p45, b45, u45, ps⟩ w := hro
    clear hro
    have hG := hG.trans hv
    have hX := hX.gr hv au
    have hr : RK g s p45 b45 u45 ps _ := hr
    refine fA fo53_3 rfl<|sT sc9 hX rfl fun w hX hs => ?_
    have hr := hr.gr hs au
    have hr : RK g s p45 b45 u45 ps _ := hr
    have hG := hG.fresh hs hqw
    refine nsqr<|pr 1 rfl<|eN en24 rfl (spaces_calls g ⟨s, p45, b45, u45, ps⟩ _ hr hb sO) fun v w hv => ?_
    obtain ⟨v46, p46, b46, u46, e46, hp46a, hp46b, hb46, hu46⟩ := Sp.Le.split (f := Sp.spaces ⟨s, p45, b45, u45, ps⟩) (Sp.spaces_le ⟨s, p45, b45, u45, ps⟩ okk)
    obtain ⟨hv1, hro, hv⟩ := hv
    rw [e46] at hv1 hro
    have hv1 : v = .bool v46 := hv1
    subst hv1
    clear hr
    have hr : RD g ⟨s, p46, b46, u46, ps⟩ w := hro
    clear hro
    have hG := hG.trans hv
    have hX := hX.gr hv au
    have hr : RK g s p46 b46 u46 ps _ := hr
    refine nsr<|pr 3 rfl<|fA fo38_3 rfl<|W.splitB (R.load sc4 rfl hr rfl) rfl rfl rfl (fun h47 => ?_) (fun h47 => ?_)
    ·subst h47
     have hr : RK g s p46 b46 true ps _ := hr
     refine pr 6 rfl<|fA fo38_3 rfl<|sT sc4 hr rfl fun w hr hs => ?_
     have hX := hX.gr hs au
     have hr : RK g s p46 b46 true ps _ := hr
     have hG := hG.trans hs
     refine nB ?_
     exact cT [(0, pP g), (7, pP q), (8, .slice none 0 0)] rfl ⟨p46, b46, true, ⟨kind, 0, [], v45, 0, 0, 0⟩, _, [], rfl, hr, hX, hG, .inl ⟨rfl, rfl⟩, by first | (simp [Sp.argument, Rd.unsure, Rd.orUns, SelN.mk1, e30, e44, e45, e46, h1, h2, h11, h20, h29, h31, h37, h43]; done) | (simp [Sp.argument, Rd.unsure, Rd.orUns, SelN.mk1, e30, e44, e45, e46, h1, h2, h11, h20, h29, h31, h37, h43, Sp.beqF h43]; done), om⟩
    subst h47
    have hr : RK g s p46 b46 false ps _ := hr
    refine pr 2 rfl<|gN rfl en26 rfl (nx_calls g s p46 b46 false ps _ hr hb om) fun v w hv => ?_
    obtain ⟨rfl, hv⟩ := hv
    have hr := hr.grN hv
    have hG := hG.trans (hv.no _)
    have hnx := Sp.nx_lt s (p46)
    have hX := hX.gr hv au
    refine W.gsplit rfl (R.eqI rfl rfl) rfl rfl rfl (fun h48 => ?_) (fun h48 => ?_)
    ·try norm_cast at h48
     refine pr 2 rfl<|fA fo38_3 rfl<|sT sc4 hr rfl fun w hr hs => ?_
     have hX := hX.gr hs au
     have hr : RK g s p46 b46 true ps _ := hr
     have hG := hG.trans hs
     refine nB ?_
     exact cT [(0, pP g), (7, pP q), (8, .slice none 0 0)] rfl ⟨p46, b46, true, ⟨kind, 0, [], v45, 0, 0, 0⟩, _, [], rfl, hr, hX, hG, .inl ⟨rfl, rfl⟩, by first | (simp [Sp.argument, Rd.unsure, Rd.orUns, SelN.mk1, e30, e44, e45, e46, h1, h2, h11, h20, h29, h31, h37, h43, h48]; done) | (simp [Sp.argument, Rd.unsure, Rd.orUns, SelN.mk1, e30, e44, e45, e46, h1, h2, h11, h20, h29, h31, h37, h43, h48, Sp.beqF h48]; done), om⟩
    try norm_cast at h48
    refine pr 2 rfl<|fA fo38_3 rfl<|sT sc4 hr rfl fun w hr hs => ?_
    have hX := hX.gr hs au
    have hr : RK g s p46 b46 false ps _ := hr
    have hG := hG.trans hs
    refine nB ?_
    exact cT [(0, pP g), (7, pP q), (8, .slice none 0 0)] rfl ⟨p46, b46, false, ⟨kind, 0, [], v45, 0, 0, 0⟩, _, [], rfl, hr, hX, hG, .inl ⟨rfl, rfl⟩, by first | (simp [Sp.argument, Rd.unsure, Rd.orUns, SelN.mk1, e30, e44, e45, e46, h1, h2, h11, h20, h29, h31, h37, h43, h48]; done) | (simp [Sp.argument, Rd.unsure, Rd.orUns, SelN.mk1, e30, e44, e45, e46, h1, h2, h11, h20, h29, h31, h37, h43, h48, Sp.beqF h48]; done), om⟩
   try norm_cast at h43
   refine ksqr<|pr 2 rfl<|eN en36 rfl (name_calls g s p30 b30 u30 ps _ hr hb om) fun v w hv => ?_
   obtain ⟨v49, p49, b49, u49, e49, hp49a, hp49b, hb49, hu49⟩ := Sp.Le.split (f := Sp.name ⟨s, p30, b30, u30, ps⟩) (Sp.name_le ⟨s, p30, b30, u30, ps⟩ okk).1
   have hl49 : v49.length ≤ 4 * (p49 - (p30)) := by have := (Sp.name_le ⟨s, p30, b30, u30, ps⟩ okk).2; rw [e49] at this; exact this
   obtain ⟨hv1, hro, hv⟩ := hv
   rw [e49] at hv1 hro
   have hv1 : v = str v49 := hv1
   subst hv1
   clear hr
   have hr : RD g ⟨s, p49, b49, u49, ps⟩ w := hro
   clear hro
   have hG := hG.trans hv
   have hX := hX.gr hv au
   have hr : RK g s p49 b49 u49 ps _ := hr
   refine eN en74 rfl (small_calls g s p49 b49 u49 ps _ hr hb om v49 om) fun v w hv => ?_
   obtain ⟨v50, p50, b50, u50, e50, hp50a, hp50b, hb50, hu50⟩ := Sp.Le.split (f := Sp.small ⟨s, p49, b49, u49, ps⟩ v49) (Sp.small_le ⟨s, p49, b49, u49, ps⟩ v49 okk)
   obtain ⟨hv1, hro, hv⟩ := hv
   rw [e50] at hv1 hro
   have hv1 : v = str v50 := hv1
   subst hv1
   clear hr
   have hr : RD g ⟨s, p50, b50, u50, ps⟩ w := hro
   clear hro
   have hG := hG.trans hv
   have hX := hX.gr hv au
   have hr : RK g s p50 b50 u50 ps _ := hr
   refine fA fo53_3 rfl<|sT sc9 hX rfl fun w hX hs => ?_
   have hr := hr.gr hs au
   have hr : RK g s p50 b50 u50 ps _ := hr
   have hG := hG.fresh hs hqw
   refine nsqr<|pr 1 rfl<|eN en24 rfl (spaces_calls g ⟨s, p50, b50, u50, ps⟩ _ hr hb sO) fun v w hv => ?_
   obtain ⟨v51, p51, b51, u51, e51, hp51a, hp51b, hb51, hu51⟩ := Sp.Le.split (f := Sp.spaces ⟨s, p50, b50, u50, ps⟩) (Sp.spaces_le ⟨s, p50, b50, u50, ps⟩ okk)
   obtain ⟨hv1, hro, hv⟩ := hv
   rw [e51] at hv1 hro
   have hv1 : v = .bool v51 := hv1
   subst hv1
   clear hr
   have hr : RD g ⟨s, p51, b51, u51, ps⟩ w := hro
   clear hro
   have hG := hG.trans hv
   have hX := hX.gr hv au
   have hr : RK g s p51 b51 u51 ps _ := hr
   refine nsr<|pr 3 rfl<|fA fo38_3 rfl<|W.splitB (R.load sc4 rfl hr rfl) rfl rfl rfl (fun h52 => ?_) (fun h52 => ?_)
   ·subst h52
    have hr : RK g s p51 b51 true ps _ := hr
    refine pr 6 rfl<|fA fo38_3 rfl<|sT sc4 hr rfl fun w hr hs => ?_
    have hX := hX.gr hs au
    have hr : RK g s p51 b51 true ps _ := hr
    have hG := hG.trans hs
    refine nB ?_
    exact cT [(0, pP g), (7, pP q), (8, .slice none 0 0)] rfl ⟨p51, b51, true, ⟨kind, 0, [], v50, 0, 0, 0⟩, _, [], rfl, hr, hX, hG, .inl ⟨rfl, rfl⟩, by first | (simp [Sp.argument, Rd.unsure, Rd.orUns, SelN.mk1, e30, e49, e50, e51, h1, h2, h11, h20, h29, h31, h37, h43]; done) | (simp [Sp.argument, Rd.unsure, Rd.orUns, SelN.mk1, e30, e49, e50, e51, h1, h2, h11, h20, h29, h31, h37, h43, Sp.beqF h43]; done), om⟩
   subst h52
   have hr : RK g s p51 b51 false ps _ := hr
   refine pr 2 rfl<|gN rfl en26 rfl (nx_calls g s p51 b51 false ps _ hr hb om) fun v w hv => ?_
   obtain ⟨rfl, hv⟩ := hv
   have hr := hr.grN hv
   have hG := hG.trans (hv.no _)
   have hnx := Sp.nx_lt s (p51)
   have hX := hX.gr hv au
   refine W.gsplit rfl (R.eqI rfl rfl) rfl rfl rfl (fun h53 => ?_) (fun h53 => ?_)
   ·try norm_cast at h53
    refine pr 2 rfl<|fA fo38_3 rfl<|sT sc4 hr rfl fun w hr hs => ?_
    have hX := hX.gr hs au
    have hr : RK g s p51 b51 true ps _ := hr
    have hG := hG.trans hs
    refine nB ?_
    exact cT [(0, pP g), (7, pP q), (8, .slice none 0 0)] rfl ⟨p51, b51, true, ⟨kind, 0, [], v50, 0, 0, 0⟩, _, [], rfl, hr, hX, hG, .inl ⟨rfl, rfl⟩, by first | (simp [Sp.argument, Rd.unsure, Rd.orUns, SelN.mk1, e30, e49, e50, e51, h1, h2, h11, h20, h29, h31, h37, h43, h53]; done) | (simp [Sp.argument, Rd.unsure, Rd.orUns, SelN.mk1, e30, e49, e50, e51, h1, h2, h11, h20, h29, h31, h37, h43, h53, Sp.beqF h53]; done), om⟩
   try norm_cast at h53
   refine pr 2 rfl<|fA fo38_3 rfl<|sT sc4 hr rfl fun w hr hs => ?_
   have hX := hX.gr hs au
   have hr : RK g s p51 b51 false ps _ := hr
   have hG := hG.trans hs
   refine nB ?_
   exact cT [(0, pP g), (7, pP q), (8, .slice none 0 0)] rfl ⟨p51, b51, false, ⟨kind, 0, [], v50, 0, 0, 0⟩, _, [], rfl, hr, hX, hG, .inl ⟨rfl, rfl⟩, by first | (simp [Sp.argument, Rd.unsure, Rd.orUns, SelN.mk1, e30, e49, e50, e51, h1, h2, h11, h20, h29, h31, h37, h43, h53]; done) | (simp [Sp.argument, Rd.unsure, Rd.orUns, SelN.mk1, e30, e49, e50, e51, h1, h2, h11, h20, h29, h31, h37, h43, h53, Sp.beqF h53]; done), om⟩
  try norm_cast at h29
  refine qr<|pr 1 rfl<|eN en24 rfl (spaces_calls g ⟨s, p0, b0, u0, ps⟩ _ hr hb sO) fun v w hv => ?_
  obtain ⟨v54, p54, b54, u54, e54, hp54a, hp54b, hb54, hu54⟩ := Sp.Le.split (f := Sp.spaces ⟨s, p0, b0, u0, ps⟩) (Sp.spaces_le ⟨s, p0, b0, u0, ps⟩ okk)
  obtain ⟨hv1, hro, hv⟩ := hv
  rw [e54] at hv1 hro
  have hv1 : v = .bool v54 := hv1
  subst hv1
  clear hr
  have hr : RD g ⟨s, p54, b54, u54, ps⟩ w := hro
  clear hro
  have hG := hG.trans hv
  have hX := hX.gr hv au
  have hr : RK g s p54 b54 u54 ps _ := hr
  refine nsqr<|pr 2 rfl<|eN en56 rfl (value_calls g s p54 b54 u54 ps _ hr hb om) fun v w hv => ?_
  obtain ⟨v55, p55, b55, u55, e55, hp55a, hp55b, hb55, hu55⟩ := Sp.Le.split (f := Sp.value ⟨s, p54, b54, u54, ps⟩) (Sp.value_le ⟨s, p54, b54, u54, ps⟩ okk).1
  have hl55 : v55.length ≤ 4 * (p55 - (p54)) := by have := (Sp.value_le ⟨s, p54, b54, u54, ps⟩ okk).2; rw [e55] at this; exact this
  obtain ⟨hv1, hro, hv⟩ := hv
  rw [e55] at hv1 hro
  have hv1 : v = str v55 := hv1
  subst hv1
  clear hr
  have hr : RD g ⟨s, p55, b55, u55, ps⟩ w := hro
  clear hro
  have hG := hG.trans hv
  have hX := hX.gr hv au
  have hr : RK g s p55 b55 u55 ps _ := hr
  refine eN en74 rfl (small_calls g s p55 b55 u55 ps _ hr hb om v55 om) fun v w hv => ?_
  obtain ⟨v56, p56, b56, u56, e56, hp56a, hp56b, hb56, hu56⟩ := Sp.Le.split (f := Sp.small ⟨s, p55, b55, u55, ps⟩ v55) (Sp.small_le ⟨s, p55, b55, u55, ps⟩ v55 okk)
  obtain ⟨hv1, hro, hv⟩ := hv
  rw [e56] at hv1 hro
  have hv1 : v = str v56 := hv1
  subst hv1
  clear hr
  have hr : RD g ⟨s, p56, b56, u56, ps⟩ w := hro
  clear hro
  have hG := hG.trans hv
  have hX := hX.gr hv au
  have hr : RK g s p56 b56 u56 ps _ := hr
  refine fA fo53_3 rfl<|sT sc9 hX rfl fun w hX hs => ?_
  have hr := hr.gr hs au
  have hr : RK g s p56 b56 u56 ps _ := hr
  have hG := hG.fresh hs hqw
  refine nsr<|pr 1 rfl<|eN en24 rfl (spaces_calls g ⟨s, p56, b56, u56, ps⟩ _ hr hb sO) fun v w hv => ?_
  obtain ⟨v57, p57, b57, u57, e57, hp57a, hp57b, hb57, hu57⟩ := Sp.Le.split (f := Sp.spaces ⟨s, p56, b56, u56, ps⟩) (Sp.spaces_le ⟨s, p56, b56, u56, ps⟩ okk)
  obtain ⟨hv1, hro, hv⟩ := hv
  rw [e57] at hv1 hro
  have hv1 : v = .bool v57 := hv1
  subst hv1
  clear hr
  have hr : RD g ⟨s, p57, b57, u57, ps⟩ w := hro
  clear hro
  have hG := hG.trans hv
  have hX := hX.gr hv au
  have hr : RK g s p57 b57 u57 ps _ := hr
  refine nB ?_
  exact cT [(0, pP g), (7, pP q), (8, .slice none 0 0)] rfl ⟨p57, b57, u57, ⟨kind, 0, [], v56, 0, 0, 0⟩, _, [], rfl, hr, hX, hG, .inl ⟨rfl, rfl⟩, by first | (simp [Sp.argument, Rd.unsure, Rd.orUns, SelN.mk1, e54, e55, e56, e57, h1, h2, h11, h20, h29]; done) | (simp [Sp.argument, Rd.unsure, Rd.orUns, SelN.mk1, e54, e55, e56, e57, h1, h2, h11, h20, h29, Sp.beqF h29]; done), om⟩
 rintro l w ⟨p9, b9, u9, X, kv, kids, rfl, hr, hX, hG, hOk, hE, hp9⟩
 have hr : RK g s p9 b9 u9 ps _ := hr
 refine qqr<|pr 2 rfl<|fA fo38_2 rfl<|W.splitB (R.load sc4 rfl hr rfl) rfl rfl rfl (fun h58 => ?_) (fun h58 => ?_)
 ·subst h58
  have hr : RK g s p9 true u9 ps _ := hr
  refine pr 5 rfl<|ns<|cV rfl<|qr<|pr 1 rfl<|eN en28 rfl (fail_calls g s p9 true u9 ps _ hr) fun v w hv => ?_
  obtain ⟨hO, hr, hv⟩ := hv
  have hO := own_mono hO hG.size
  have hG := hG.trans hv
  have hX := hX.gr hv au
  have hOk := hOk.gr hv au
  have hr : RK g s p9 true u9 ps _ := hr
  refine pr 1 rfl<|nsth<|rA rfl rfl ?_
  rw [hE]
  have E : Sp.closed X kids ⟨s, p9, true, u9, ps⟩ = (Sp.failed, ⟨s, p9, true, u9, ps⟩) := by simp [Sp.closed, Sp.fail, Rd.refuse, ]
  rw [E]
  exact ⟨hO, hr, hG⟩
 subst h58
 have hr : RK g s p9 false u9 ps _ := hr
 refine pr 2 rfl<|gN rfl en18 rfl (taken_calls g ⟨s, p9, false, u9, ps⟩ _ hr hb sO [41] dC) fun v w hv => ?_
 obtain ⟨v59, p59, b59, u59, e59, hp59a, hp59b, hb59, hu59⟩ := Sp.Le.split (f := Sp.taken ⟨s, p9, false, u9, ps⟩ [41]) (Sp.taken_le ⟨s, p9, false, u9, ps⟩ [41] okk)
 obtain ⟨hv1, hro, hv⟩ := hv
 rw [e59] at hv1 hro
 have hv1 : v = .bool v59 := hv1
 subst hv1
 clear hr
 have hr : RD g ⟨s, p59, b59, u59, ps⟩ w := hro
 clear hro
 have hG := hG.trans hv
 have hX := hX.gr hv au
 have hOk := hOk.gr hv au
 have hr : RK g s p59 b59 u59 ps _ := hr
 refine pr 2 rfl<|ns<|cC rfl (fun h60 => ?_) (fun h60 => ?_)
 ·try simp only [Bool.not_eq_true', Bool.not_eq_false'] at h60
  subst h60
  have hr : RK g s p59 b59 u59 ps _ := hr
  refine qr<|pr 1 rfl<|eN en28 rfl (fail_calls g s p59 b59 u59 ps _ hr) fun v w hv => ?_
  obtain ⟨hO, hr, hv⟩ := hv
  have hO := own_mono hO hG.size
  have hG := hG.trans hv
  have hX := hX.gr hv au
  have hOk := hOk.gr hv au
  have hr : RK g s p59 true u59 ps _ := hr
  refine pr 1 rfl<|nsth<|rA rfl rfl ?_
  rw [hE]
  have E : Sp.closed X kids ⟨s, p9, false, u9, ps⟩ = (Sp.failed, ⟨s, p59, true, u59, ps⟩) := by simp [Sp.closed, Sp.fail, Rd.refuse, e59]
  rw [E]
  exact ⟨hO, hr, hG⟩
 try simp only [Bool.not_eq_true', Bool.not_eq_false'] at h60
 subst h60
 have hr : RK g s p59 b59 u59 ps _ := hr
 refine ksqr<|qq (R.loadAgg (k := 8) (vs := SelN.cells (X) 0) ag53 rfl hX (Nat.le_refl 8) rfl) rfl<|pr 1 rfl<|W.buildSlice (ps := [(0, kv)]) (fun a ha => by simp [ha.ev (x := .tmp 120) rfl]) (row28 _ hOk.one) rfl fun w kb hkz hK hv => ?_
 have hr := hr.grN hv
 have hX := hX.grN hv
 have hG := hG.trans (hv.no _)
 have hOk := hOk.grN hv
 refine eN en19 rfl (SelMadeG X kb 1 _ (hK.cell rfl) hOk) fun v w hv => ?_
 obtain ⟨hO, hv⟩ := hv
 have hO := own_mono hO hG.size
 have hr := hr.grN hv
 have hG := hG.trans (hv.no _)
 have hX := hX.gr hv au
 have hOk := hOk.gr hv au
 refine pr 1 rfl<|nst<|rA rfl rfl ?_
 rw [hE]
 have E : Sp.closed X kids ⟨s, p9, false, u9, ps⟩ = (ST.node X kids, ⟨s, p59, b59, u59, ps⟩) := by simp [Sp.closed, Sp.fail, Rd.refuse, e59]
 rw [E]
 exact ⟨hO, hr, hG⟩
end Go.Proofs.YtogfnbkccfkpoaaGreatDoor
