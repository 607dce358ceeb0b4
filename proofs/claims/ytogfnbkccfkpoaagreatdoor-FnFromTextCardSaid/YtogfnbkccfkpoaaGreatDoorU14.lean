/- A part (14) of the proof of the row of laws.FnFromText: lemmas on Fnl, LwA, LwB, LwC, LwD, LwE, LwF, LwG, LwK, LwL, LwH, LwI. No condition but what each statement says. -/
import Derived.Test.YtogfnbkccfkpoaaGreatDoorU13
import Derived.ChangeKeysEq
set_option linter.unusedSimpArgs false
set_option linter.unusedVariables false
set_option linter.unusedSectionVars false
set_option maxRecDepth 100000
set_option maxHeartbeats 1000000
namespace Go.Proofs.YtogfnbkccfkpoaaGreatDoor
open Go Go.RowKit
open Eng
theorem gd30 (x y : Operand) (a b c a' b' c' : Int) (w : World) : (eqGuard .neq 30 x y (.agg #[.int .i64 a, .int .i64 b, .int .i64 c]) (.agg #[.int .i64 a', .int .i64 b', .int .i64 c'])).run PR w = .ok () w := by kernel_rfl
theorem ua30 : PR.underlying 30 = some (.array 3 3) := by kernel_rfl
theorem co3 : PR.cellsOf 3 = 1 := by kernel_rfl
theorem in3 : (PR.info? 3).isSome = true := by kernel_rfl
theorem pt0 (a b c : Value) (w : World) : (part 3 #[a, b, c] 0).run PR w = .ok a w := by kernel_rfl
theorem pt1 (a b c : Value) (w : World) : (part 3 #[a, b, c] 1).run PR w = .ok b w := by kernel_rfl
theorem pt2 (a b c : Value) (w : World) : (part 3 #[a, b, c] 2).run PR w = .ok c w := by kernel_rfl
theorem ei3 (d : Nat) (a : Int) (w : World) : (Op.equalIn (d + 1) 3 (.int .i64 a) (.int .i64 a)).run PR w = .ok true w := by
 unfold Op.equalIn
 simp [run_underlying u3]
theorem ne30 (a b c : Int) (w : World) : (binOp .neq 30 (.agg #[.int .i64 a, .int .i64 b, .int .i64 c]) (.agg #[.int .i64 a, .int .i64 b, .int .i64 c])).run PR w = .ok (.bool false) w := by
 obtain ⟨i, hi⟩ := Option.isSome_iff_exists.1 in3
 have h : (Op.equal 30 (.agg #[.int .i64 a, .int .i64 b, .int .i64 c]) (.agg #[.int .i64 a, .int .i64 b, .int .i64 c])).run PR w = .ok true w := by
  show (Op.equalIn (Op.maxDepth - 2 + 1 + 1) 30 _ _).run PR w = .ok true w
  rw [run_equalIn_array w _ _ _ ua30 hi, co3, show List.range 3 = [0, 1, 2] from rfl]
  simp [Op.eqItems, pt0, pt1, pt2, ei3]
 simp [binOp, h]
theorem R.ne30 {n : Nat} {l : Fr} {w : World} {dst : Option Nat} {ty : TypeId} {pos : String} {af : Array Edge} {g : Option (Nat × Bool)} {x y : Operand} {u : TypeId} {T : Tr} (hx : ev l x = some (.agg T.cells.toArray)) (hy : ev l y = some (.agg T.cells.toArray)) : Runs PR n l ⟨dst, .binOp .neq 30 x y u, ty, pos, af, g⟩ w (.value (.bool false)) w := fun i hi => by
 have h1 := Go.Proofs.YtogfnbkccfkpoaaGreatDoor.ne30 T.a T.b T.c w
 have h2 := gd30 x y T.a T.b T.c T.a T.b T.c w
 simp only [execOp, hi.ev hx, hi.ev hy, Tr.cells]
 simp [h1, h2]
theorem partsV_at {w : World} {b off cap : Nat} : ∀ (l : List ST) (k : Nat), NodesAt w b (off + k * 8) (ST.encL l) → ∀ (i : Nat) (t : ST), l[i]? = some t → ∃ p, (partsV b off cap k l)[i]? = some (.slice (some ⟨b, off + p * 8, none⟩) t.cnt (cap - p)) ∧ NodesAt w b (off + p * 8) t.enc ∧ p + t.cnt ≤ k + ST.cntL l
 | [], _, _, i, t, h => by simp at h
 | x :: r, k, hn, i, t, h => by
  cases i with
  | zero =>
   simp at h; subst h
   exact ⟨k, rfl, hn.head, by rw [ST.cntL]; omega⟩
  | succ i =>
   obtain ⟨p, h1, h2, h3⟩ := partsV_at r (k + x.cnt) (hn.tail.cast (show off + k * 8 + x.cnt * 8 = off + (k + x.cnt) * 8 by omega)) i t (by simpa using h)
   exact ⟨p, by simpa [partsV] using h1, h2, by rw [ST.cntL]; omega⟩
theorem rowsV_get : ∀ {l : List IS} {ts : List (List UInt8)} {i : Nat} {x : IS} {t : List UInt8}, l[i]? = some x → ts[i]? = some t → ∀ (j : Nat) (u : Value), (rowV x t)[j]? = some u → (rowsV l ts)[i * 5 + j]? = some u
 | [], _, _, _, _, h, _ => by simp at h
 | _ :: _, [], _, _, _, _, h => by simp at h
 | y :: l, s :: ts, 0, x, t, h1, h2 => fun j u hj => by
  simp at h1 h2; subst h1 h2
  rw [rowsV, Nat.zero_mul, Nat.zero_add, List.getElem?_append_left]
  ·exact hj
  exact (List.getElem?_eq_some_iff.1 hj).1
 | y :: l, s :: ts, i + 1, x, t, h1, h2 => fun j u hj => by
  have := rowsV_get (l := l) (ts := ts) (i := i) (x := x) (t := t) (by simpa using h1) (by simpa using h2) j u hj
  rw [rowsV, List.getElem?_append_right (by simp [rowV]; omega)]
  rw [show (i + 1) * 5 + j - (rowV y s).length = i * 5 + j from by simp [rowV]; omega]
  exact this
theorem cntL_len : ∀ l : List ST, l.length ≤ ST.cntL l
 | [] => Nat.le_refl _
 | t :: r => by
  have := cntL_len r
  have := ST.cnt_pos t
  rw [ST.cntL, List.length_cons]; omega
def Agree (T : ST) (l : List IS) : Prop := T.top.kind = 23 ∧ l.length = T.kids.length ∧ ∀ (i : Nat) (k : ST) (x : IS), T.kids[i]? = some k → l[i]? = some x → Sp.specy k = x.spec ∧ Sp.pseudoOf k.flat = x.pel
def Law (s : List UInt8) : Prop := ∀ (T : ST) (fine : Bool), Sp.parsed s true = (T, fine, true) → (fine = false → Im.parsed s = none) ∧ (fine = true → ∃ l, Im.parsed s = some l ∧ Agree T l)
theorem parsed_a : ∃ l, Im.parsed [97] = some l := ⟨[.tag [97]], by kernel_rfl⟩
theorem RNG.up {p q : Nat} {w w' : World} (h : RNG p w) (g : Gr w w' none) (hq : p ≤ q) : RNG q w' := by
 have := h.gr (g.no _)
 exact ⟨by have := this.1; omega, this.2⟩
def FR (base : Nat) (w : World) (l : List IS) (v : Value) : Prop := ∃ ts, ts.length = l.length ∧ w.ownsRow base 32 5 v l.length (rowsV l ts)
theorem FR.grN {base : Nat} {w w' : World} {l : List IS} {v : Value} (h : FR base w l v) (g : Gr w w' none) : FR base w' l v := by
 obtain ⟨ts, h1, h2⟩ := h; exact ⟨ts, h1, own_grN h2 g⟩
theorem FR.get {base b n c : Nat} {w : World} {l : List IS} (h : FR base w l (.slice (some ⟨b, 0, none⟩) n c)) {i : Nat} {x : IS} (hx : l[i]? = some x) : (∀ j u, x.spec.cells[j]? = some u → w.cell? ⟨b, 0 + i * 5 + 1 + j, none⟩ = some u) ∧ w.cell? ⟨b, 0 + i * 5 + 4, none⟩ = some (str x.pel) := by
 obtain ⟨ts, h1, h2⟩ := h
 have hi := (List.getElem?_eq_some_iff.1 hx).1
 have ht : ts[i]? = some ts[i] := List.getElem?_eq_getElem om
 have hc := h2.cells (g := b) rfl
 constructor
 ·intro j u hj
  have := hc (i * 5 + (1 + j)) u (rowsV_get hx ht (1 + j) u (by
   rw [Nat.add_comm 1 j]
   have hj3 : j < 3 := (List.getElem?_eq_some_iff.1 hj).1
   rcases (show j = 0 ∨ j = 1 ∨ j = 2 by omega) with rfl | rfl | rfl <;> exact hj))
  rw [addr_add] at this
  rwa [show 0 + i * 5 + 1 + j = 0 + (i * 5 + (1 + j)) from by omega]
 have := hc (i * 5 + 4) (str x.pel) (rowsV_get hx ht 4 _ rfl)
 rw [addr_add] at this
 rwa [show 0 + i * 5 + 4 = 0 + (i * 5 + 4) from by omega]
theorem FR.some {base n c : Nat} {a : Option Addr} {w : World} {l : List IS} {i : Nat} (h : FR base w l (.slice a n c)) (hi : i < l.length) : ∃ b d, Value.slice a n c = .slice (some ⟨b, 0, none⟩) l.length d := by
 obtain ⟨ts, h1, h2⟩ := h; exact own_slice h2 om
def PL (base : Nat) (w : World) (xs : List Value) (n : Nat) (v : Value) : Prop := w.ownsRow base 22 1 v n xs
theorem PL.grN {base n : Nat} {w w' : World} {xs : List Value} {v : Value} (h : PL base w xs n v) (g : Gr w w' none) : PL base w' xs n v := own_grN h g
theorem PL.get {base b n m c : Nat} {w : World} {xs : List Value} {i : Nat} {u : Value} (h : PL base w xs n (.slice (Option.some ⟨b, 0, Option.none⟩) m c)) (hx : xs[i]? = Option.some u) : w.cell? ⟨b, 0 + i * 1, Option.none⟩ = Option.some u := by
 have := World.ownsRow.cells (g := b) h rfl i u hx
 rw [addr_add] at this
 rwa [Nat.mul_one]
theorem own_cap {base b m c : Nat} {w : World} {T : ST} (h : OwnT base w (.slice (Option.some ⟨b, 0, Option.none⟩) m c) T) : T.cnt ≤ c := by
 rcases h.2 with ⟨h0, -⟩ | ⟨g, cap, cur, hv, -, -, hn, -⟩
 ·cases h0
 injection hv with h1 h2 h3
 omega
theorem kidsN {base b m c : Nat} {w : World} {T : ST} (h : OwnT base w (.slice (Option.some ⟨b, 0, Option.none⟩) m c) T) : NodesAt w b (0 + 1 * 8) (ST.encL T.kids) := (NodesAt.of_own h).kids.cast om
theorem FnFromText_calls (s : List UInt8) (w0 : World) (hrng : RNG w0.heap.size w0) (hT : TABs w0) (hlaw : s.length ≤ 1000 → Law s) :
 CR PR 3 [str s] w0 fun v w' => v = .bool true ∧ Gr w0 w' none := by
 have hT := hT.tab
 have hG : Gr w0 w0 none := Gr.refl _ _
 refine CR.of (n := 83) [(0, str s)] Tryz.func3 rfl Tryz.ntmps3 rfl ⟨rfl, trivial⟩<|qr<|pr 1 rfl<|nsq<|qr<|pr 1 rfl<|qq (R.lenS rfl u9) rfl<|qq (R.gtI rfl rfl) rfl<|ns<|cD rfl (fun h1 => ?_) fun h1 => ?_
 ·exact qr<|pr 1 rfl<|nsth<|rA rfl rfl ⟨rfl, hG⟩
 refine ksq<|qr<|pr 1 rfl<|qq (R.lenS rfl u9) rfl<|qq (R.gtI rfl rfl) rfl<|ns<|cD rfl (fun h2 => ?_) fun h2 => ?_
 ·exact qr<|pr 1 rfl<|nsth<|rA rfl rfl ⟨rfl, hG⟩
 refine ksq ?_
 have hlaw := hlaw om
 refine rR<|pr 1 rfl<|eN en4 rfl (Parsed_calls s _ om) fun v w hv => ?_
 generalize hP : Sp.parsed s true = R3 at hv
 obtain ⟨T, fine, sure⟩ := R3
 obtain ⟨vl, rfl, hOT, hv⟩ := hv
 simp only [] at hOT
 have hsz := hG.size
 have hT := hT.grN hv
 have hG := hG.trans hv
 rcases fine with _ | _
 ·refine pr 7 rfl<|nsq<|qr<|pr 2 rfl<|ns<|cC rfl (fun h3 => ?_) (fun h3 => ?_)
  ·try simp only [Bool.not_eq_true', Bool.not_eq_false'] at h3
   subst h3
   exact qr<|pr 1 rfl<|nsth<|rA rfl rfl ⟨rfl, hG⟩
  try simp only [Bool.not_eq_true', Bool.not_eq_false'] at h3
  subst h3
  refine ksqr<|pr 1 rfl<|eN en5 rfl (FromText_calls s _ om (hrng.up hG hG.size) hT.1) fun v w hv => ?_
  rcases hM : Im.parsed s with _ | l
  ·rw [hM] at hv
   obtain ⟨rfl, hv⟩ := hv
   have hT := hT.grN hv
   have hG := hG.trans hv
   refine pr 5 rfl<|nsq<|qr<|pr 2 rfl<|ns<|cV rfl<|qr<|eN en5 rfl (FromText_calls [97] _ dC (hrng.up hG hG.size) hT.1) fun v w hv => ?_
   obtain ⟨la, hla⟩ := parsed_a
   rw [hla] at hv
   obtain ⟨v8, ts8, rfl, -, -, hv⟩ := hv
   have hG := hG.trans hv
   exact pr 5 rfl<|nsqr<|pr 6 rfl<|nsth<|rA rfl rfl ⟨rfl, hG⟩
  rw [hM] at hv
  obtain ⟨v6, ts, rfl, htl, hO6, hv⟩ := hv
  obtain ⟨a6, c6, rfl⟩ := own_any hO6
  have hF : FR _ _ l (.slice a6 l.length c6) := ⟨ts, htl, hO6⟩
  have hF := hF
  have hT := hT.grN hv
  have hG := hG.trans hv
  refine pr 5 rfl<|nsq<|qr<|pr 2 rfl<|ns<|cV rfl<|qr<|eN en5 rfl (FromText_calls [97] _ dC (hrng.up hG hG.size) hT.1) fun v w hv => ?_
  obtain ⟨la, hla⟩ := parsed_a
  rw [hla] at hv
  obtain ⟨v8, ts8, rfl, -, -, hv⟩ := hv
  have hG := hG.trans hv
  refine pr 5 rfl<|nsqr<|pr 6 rfl<|nsth ?_
  have hc := (hlaw T false hP).1 rfl
  rw [hM] at hc
  cases hc
 obtain ⟨hY, hcnt⟩ := hOT rfl
 obtain ⟨bk, ck, rfl⟩ := own_slice hY (ST.cnt_pos T)
 refine pr 7 rfl<|nsq<|qr<|pr 2 rfl<|ns<|cC rfl (fun h4 => ?_) (fun h4 => ?_)
 ·try simp only [Bool.not_eq_true', Bool.not_eq_false'] at h4
  subst h4
  exact qr<|pr 1 rfl<|nsth<|rA rfl rfl ⟨rfl, hG⟩
 try simp only [Bool.not_eq_true', Bool.not_eq_false'] at h4
 subst h4
 refine ksqr<|pr 1 rfl<|eN en5 rfl (FromText_calls s _ om (hrng.up hG hG.size) hT.1) fun v w hv => ?_
 rcases hM : Im.parsed s with _ | l
 ·rw [hM] at hv
  obtain ⟨rfl, hv⟩ := hv
  have hT := hT.grN hv
  have hG := hG.trans hv
  have hY := hY.grN hv
  refine pr 5 rfl<|nsq<|qr<|pr 2 rfl<|ns<|cF rfl<|ksq ?_
  exact absurd ((hlaw T true hP).2 rfl) (by rintro ⟨l, hl, -⟩; rw [hM] at hl; cases hl)
 rw [hM] at hv
 obtain ⟨v6, ts, rfl, htl, hO6, hv⟩ := hv
 obtain ⟨a6, c6, rfl⟩ := own_any hO6
 have hF : FR _ _ l (.slice a6 l.length c6) := ⟨ts, htl, hO6⟩
 have hF := hF
 have hT := hT.grN hv
 have hG := hG.trans hv
 have hY := hY.grN hv
 refine pr 5 rfl<|nsq<|qr<|pr 2 rfl<|ns<|cF rfl<|ksq ?_
 obtain ⟨l2, hl2, hag⟩ := (hlaw T true hP).2 rfl
 rw [hM] at hl2
 injection hl2 with hl2
 subst hl2
 have hll := hag.2.1
 have hkl := cntL_len T.kids
 have hce0 := ST.cnt_eq T
 refine rR<|pr 1 rfl<|eN en6 rfl (Selectors9_calls bk 0 T.cnt ck T _ (by have := NodesAt.of_own hY; simpa using this) (Nat.le_refl _) om (own_cap hY) hag.1) fun v w hv => ?_
 obtain ⟨hL, hv⟩ := hv
 have hF := hF.grN hv
 have hY := hY.grN hv
 have hT := hT.grN hv
 have hG := hG.trans hv
 obtain ⟨aL, cL, rfl⟩ := own_any hL
 have hL : PL _ _ (partsV bk 0 ck 1 T.kids) T.kids.length (.slice aL T.kids.length cL) := hL
 refine pr 1 rfl<|nsq<|qr<|pr 4 rfl<|gg (R.lenL rfl slq25) rfl<|pr 1 rfl<|gg (R.lenL rfl slq28) rfl<|gg (R.neI rfl rfl) rfl<|pr 1 rfl<|ns<|cD rfl (fun h5 => ?_) fun h5 => ?_
 ·all_goals (exfalso; omega)
 refine ksq<|qr<|pr 1 rfl<|qq (R.lenL rfl slq25) rfl<|pr 1 rfl<|ns<|rO ?_
 obtain ⟨B1, hF⟩ : ∃ B1, FR B1 w l (.slice a6 l.length c6) := ⟨_, hF⟩
 obtain ⟨B2, hL⟩ : ∃ B2, PL B2 w (partsV bk 0 ck 1 T.kids) T.kids.length (.slice aL T.kids.length cL) := ⟨_, hL⟩
 obtain ⟨B3, hY⟩ : ∃ B3, OwnT B3 w (.slice (some ⟨bk, 0, none⟩) T.cnt ck) T := ⟨_, hY⟩
 refine sB [(6, .slice a6 l.length c6), (10, .slice aL T.kids.length cL), (54, .int .i64 (l.length : Int)), (55, .int .i64 ((0 : Nat) : Int))] rfl<|C.loop (fun m l' w' => ∃ i : Nat, l' = [(6, .slice a6 l.length c6), (10, .slice aL T.kids.length cL), (54, .int .i64 (l.length : Int)), (55, .int .i64 (i : Int))] ∧ FR B1 w' l (.slice a6 l.length c6) ∧ PL B2 w' (partsV bk 0 ck 1 T.kids) T.kids.length (.slice aL T.kids.length cL) ∧ OwnT B3 w' (.slice (some ⟨bk, 0, none⟩) T.cnt ck) T ∧ Gr w0 w' none ∧ i + m = l.length) (l.length) (⟨0, rfl, hF, hL, hY, hG, om⟩) ?_
 rintro m l w ⟨i, rfl, hF, hL, hY, hG, hm⟩
 refine qr<|qq (R.ltI rfl rfl) rfl<|nsq<|cD rfl (fun h6 => ?_) fun h6 => ?_
 ·refine ksq<|rO<|qr<|pr 2 rfl<|nsq ?_
  have hil : i < l.length := by omega
  have hik : i < T.kids.length := by omega
  have hlx := List.getElem?_eq_getElem hil
  have hkx := List.getElem?_eq_getElem hik
  obtain ⟨hsp, hps⟩ := hag.2.2 i _ _ hkx hlx
  obtain ⟨pp, hpv, hNk, hpc⟩ := partsV_at (w := w) (b := bk) (off := 0) (cap := ck) T.kids 1 (kidsN hY) i _ hkx
  have hce := ST.cnt_eq T
  generalize l[i] = x at hlx hsp hps
  generalize T.kids[i] = kd at hkx hsp hps hpv hNk hpc
  obtain ⟨b6, d6, hq⟩ := hF.some hil
  injection hq with hq1 hq2 hq3
  subst hq1 hq3
  obtain ⟨bL, dL, hq⟩ := own_slice hL (show 0 < T.kids.length by omega)
  injection hq with hq1 hq2 hq3
  subst hq1 hq3
  have hFx := hF.get hlx
  have hLx := hL.get hpv
  refine dR<|prq 2 rfl<|qw (fun w hw => R.idxA rfl rfl i rfl hil sl25) rfl<|fQ fo32_1 rfl<|qw (fun w hw => R.loadAggC (vs := (Sp.specy kd).cells) ag30 rfl (fun j u hj => World.grownBy.cell hw (hFx.1 j u (by rw [← hsp]; exact hj)) (by simp)) rfl) rfl<|prq 2 rfl<|qw (fun w hw => R.idxA rfl rfl i rfl hik sl28) rfl<|qw (fun w hw => R.loadC sc22 rfl (World.grownBy.cell hw hLx (by simp))) rfl<|Wq.enter (fun w hw => R.call en7 rfl) rfl rfl rfl (fun w hw => (Specificity_calls bk (0 + pp * 8) kd.cnt (ck - pp) kd _ ((hNk.grN hw).cast om) (Nat.le_refl _) om).mono fun v w' hv => ⟨hv.1, Gr.trans hw hv.2⟩)<|qw (fun w hw => R.ne30 rfl rfl) rfl<|prq 3 rfl<|gw (fun w hw => R.idxA rfl rfl i rfl hil sl25) rfl<|gw (fun w hw => R.fieldAddr fo32_2 rfl) rfl<|gw (fun w hw => R.loadC (v := str (Sp.pseudoOf kd.flat)) sc9 rfl (World.grownBy.cell hw (by rw [hps]; exact hFx.2) (by simp))) rfl<|prq 2 rfl<|gw (fun w hw => R.idxA rfl rfl i rfl hik sl28) rfl<|gw (fun w hw => R.loadC sc22 rfl (World.grownBy.cell hw hLx (by simp))) rfl<|Wq.genter rfl (fun w hw => R.call en8 rfl) rfl rfl rfl (fun w hw => (Pseudo9_calls bk (0 + pp * 8) (ck - pp) kd _ ((hNk.grN hw).cast om) om).mono fun v w' hv => ⟨hv.1, Gr.trans hw hv.2⟩)<|gw (fun w hw => R.neS rfl rfl) rfl<|prq 1 rfl<|Wq.nil fun w hw => ?_
  have hF := hF.grN hw
  have hL := hL.grN hw
  have hY := hY.grN hw
  have hG := hG.trans hw
  refine rS<|cD rfl (fun h7 => ?_) fun h7 => ?_
  ·all_goals exact absurd rfl aM
  exact rK<|bS<|rR<|aK rfl rfl<|pr 1 rfl<|rN<|cT [(6, _), (10, _), (54, .int .i64 (l.length : Int)), (55, .int .i64 ((i + 1 : Nat) : Int))] rfl ⟨m - 1, om, i + 1, rfl, hF, hL, hY, hG, om⟩
 exact rE<|rX<|rX<|rY<|sqr<|pr 1 rfl<|nst<|rA rfl rfl ⟨rfl, hG⟩
end Go.Proofs.YtogfnbkccfkpoaaGreatDoor
namespace Go.Proofs.YtogfnbkccfkpoaaGreatDoor
open Go Go.RowKit
namespace Lw
open Sp
def St (s : List UInt8) (i : Nat) : Rd := ⟨s, i, false, false, true⟩
def Stuck (s : List UInt8) (i : Nat) : Prop := i < s.length ∧ byteAt s i = 92 ∧ escapeFollows (St s i) i = false
theorem isWs_eq (c : Nat) : Im.isWs c = isSpace c := by
 unfold Im.isWs isSpace
 rw [Bool.eq_iff_iff]; simp; omega
theorem next_St {s : List UInt8} {i : Nat} (h : i < s.length) : next (St s i) = byteAt s i := by
 unfold next St; exact if_pos h
theorem next_end {s : List UInt8} {i : Nat} (h : ¬ i < s.length) : next (St s i) = 0 := by
 unfold next St; exact if_neg h
theorem here_slash {s : List UInt8} {i : Nat} (h : i ≤ s.length) : here (St s i) [47, 42] = true ↔ (i + 1 < s.length ∧ byteAt s i = 47 ∧ byteAt s (i + 1) = 42) := by
 rw [← slash_iff]
 unfold here St
 simp only [Bool.and_eq_true, decide_eq_true_eq, List.length_cons, List.length_nil, List.length_drop]
 constructor
 ·rintro ⟨h1, h2⟩; exact ⟨om, h2⟩
 rintro ⟨h1, h2⟩; exact ⟨om, h2⟩
theorem spacesGo_ws (s : List UInt8) : ∀ (k i : Nat), i ≤ s.length → s.length < i + k → (spacesGo k (St s i)).uns = true ∨ spacesGo k (St s i) = St s (Im.wsGo s k i)
 | 0, i, hi, h => by omega
 | k + 1, i, hi, h => by
  rw [spacesGo, Im.wsGo]
  by_cases h1 : i < s.length
  ·rw [if_pos h1, if_pos (show (St s i).bad = false ∧ (St s i).pos < (St s i).s.length from ⟨rfl, h1⟩), next_St h1, isWs_eq]
   by_cases h2 : isSpace (byteAt s i) = true
   ·rw [if_pos h2, if_pos h2]
    exact spacesGo_ws s k (i + 1) om om
   rw [if_neg h2, if_neg h2]
   by_cases h3 : byteAt s i = 47 ∧ i + 1 < s.length ∧ byteAt s (i + 1) = 42
   ·rw [if_pos h3, if_pos ((here_slash hi).2 ⟨h3.2.1, h3.1, h3.2.2⟩)]
    have hc : comment (St s i) = match commentEnd s s.length (i + 2) with | some p => St s p | none => (St s i).refuse.unsure := rfl
    rw [hc]
    cases hq : commentEnd s s.length (i + 2) with
    | none =>
     left
     exact (spacesGo_le k _ (show Ok ((St s i).refuse.unsure) by show i ≤ s.length + 1; omega)).uns rfl
    | some p =>
     have := commentEnd_le _ _ _ _ hq
     exact spacesGo_ws s k p this.2 om
   rw [if_neg h3, if_neg (fun hh => h3 (by have := (here_slash hi).1 hh; exact ⟨this.2.1, this.1, this.2.2⟩))]
   exact .inr rfl
  rw [if_neg h1, if_neg (fun hh => h1 hh.2)]
  exact .inr rfl
theorem spaces_ws {s : List UInt8} {i : Nat} (hi : i ≤ s.length) : (spaces (St s i)).2.uns = true ∨ (spaces (St s i)).2 = St s (Im.ws s i) ∧ (spaces (St s i)).1 = decide (i < Im.ws s i) := by
 rcases spacesGo_ws s (s.length + 1) i hi om with h | h
 ·exact .inl h
 right
 have e : (spaces (St s i)).2 = St s (Im.ws s i) := h
 refine ⟨e, ?_⟩
 have e1 : (spaces (St s i)).1 = decide (i < (spaces (St s i)).2.pos) := rfl
 rw [e1, e]; rfl
theorem spaces_stuck {s : List UInt8} {i : Nat} (h : Stuck s i) : spaces (St s i) = (false, St s i) := by
 have e : spacesGo (s.length + 1) (St s i) = St s i := by
  rw [spacesGo, if_pos (show (St s i).bad = false ∧ (St s i).pos < (St s i).s.length from ⟨rfl, h.1⟩), next_St h.1, h.2.1, if_neg dC, if_neg (fun hh => by have := (here_slash (by have := h.1; omega)).1 hh; have := h.2.1; omega)]
 unfold spaces
 show (decide ((St s i).pos < (spacesGo (s.length + 1) (St s i)).pos), spacesGo (s.length + 1) (St s i)) = _
 rw [e]
 simp
theorem pointGo_cont (s : List UInt8) : ∀ (k i c c' : Nat), pointGo s k i c = some c' → ∀ m, m < k → 128 ≤ byteAt s (i + m)
 | 0, i, c, c', h => fun m hm => by omega
 | k + 1, i, c, c', h => fun m hm => by
  rw [pointGo] at h
  split at h
  ·cases h
  cases m with
  | zero => rw [Nat.add_zero]; omega
  | succ m =>
   have := pointGo_cont s k (i + 1) _ c' h m om
   rwa [show i + 1 + m = i + (m + 1) from by omega] at this
theorem pointTail_cont {s : List UInt8} {i c many least : Nat} : ∀ m, 1 ≤ m → m < (pointTail s i c many least).2 → 128 ≤ byteAt s (i + m) := by
 intro m h1 h2
 unfold pointTail at h2
 split at h2
 ·simp at h2
 cases hq : pointGo s (many - 1) (i + 1) c with
 | none => rw [hq] at h2; simp at h2
 | some c' =>
  rw [hq] at h2
  simp only at h2
  split at h2
  ·simp at h2
  have := pointGo_cont s _ _ _ _ hq (m - 1) (by simp only at h2; omega)
  rwa [show i + 1 + (m - 1) = i + m from by omega] at this
theorem point_cont {s : List UInt8} {i : Nat} : ∀ m, 1 ≤ m → m < (point s i).2 → 128 ≤ byteAt s (i + m) := by
 intro m h1 h2
 unfold point at h2
 simp only at h2
 split at h2
 ·simp only at h2; omega
 split at h2
 ·exact pointTail_cont m h1 h2
 split at h2
 ·exact pointTail_cont m h1 h2
 split at h2
 ·exact pointTail_cont m h1 h2
 simp at h2
theorem point_one {s : List UInt8} {i : Nat} (h : byteAt s i < 128) : (point s i).2 = 1 := by
 unfold point; simp only; rw [if_pos h]
theorem read_at (s : List UInt8) : ∀ (n b : Nat), s.length < b + n → readableGo s n b = true → ∀ i, b ≤ i → byteAt s i < 128 → i + 1 < s.length → (point s (i + 1)).2 ≠ 0
 | 0, b, h, hr => fun i h1 h2 h3 => by omega
 | n + 1, b, h, hr => fun i h1 h2 h3 => by
  rw [readableGo, if_pos om] at hr
  split at hr
  ·cases hr
  rename_i hp
  by_cases hib : i = b
  ·subst hib
   rw [point_one h2] at hr
   obtain ⟨n, rfl⟩ := sU n
   rw [readableGo, if_pos h3] at hr
   split at hr
   ·cases hr
   rename_i hq
   intro e; exact hq (.inl e)
  by_cases hik : i < b + (point s b).2
  ·have := point_cont (s := s) (i := b) (i - b) om om
   rw [show b + (i - b) = i from by omega] at this
   omega
  exact read_at s n _ (by have : (point s b).2 ≠ 0 := fun e => hp (.inl e); omega) hr i om h2 h3
theorem hexv_some (c : Nat) : (hexv c).isSome = Im.hexDigit c := by
 unfold hexv Im.hexDigit
 rw [Bool.eq_iff_iff]
 (repeat' split) <;> simp <;> omega
theorem hexGo_im (s : List UInt8) : ∀ (k i n many : Nat), i ≤ s.length → hexGo k n many (St s i) = (((s.drop i).take (Im.hexEnd s k i - i)).foldl (fun n c => 16 * n + (hexv c.toNat).getD 0) n, many + (Im.hexEnd s k i - i), St s (Im.hexEnd s k i))
 | 0, i, n, many, hi => by
  rw [hexGo, Im.hexEnd, Nat.sub_self]; rfl
 | k + 1, i, n, many, hi => by
  rw [hexGo, Im.hexEnd]
  by_cases h1 : i < s.length
  ·rw [next_St h1]
   cases hq : hexv (byteAt s i) with
   | none =>
    have : Im.hexDigit (byteAt s i) = false := by rw [← hexv_some, hq]; rfl
    rw [if_neg (by rw [this]; simp), Nat.sub_self]; rfl
   | some d =>
    have : Im.hexDigit (byteAt s i) = true := by rw [← hexv_some, hq]; rfl
    rw [if_pos ⟨h1, this⟩]
    have hle := Im.hexEnd_le s k (i + 1)
    have ih := hexGo_im s k (i + 1) (16 * n + d) (many + 1) om
    show hexGo k (16 * n + d) (many + 1) (St s (i + 1)) = _
    rw [ih]
    have e1 : Im.hexEnd s k (i + 1) - i = (Im.hexEnd s k (i + 1) - (i + 1)) + 1 := by omega
    have e2 : s[i].toNat = byteAt s i := by simp [byteAt, h1]
    rw [e1, List.drop_eq_getElem_cons h1, List.take_succ_cons, List.foldl_cons, e2, hq, Option.getD_some]
    rw [show many + 1 + (Im.hexEnd s k (i + 1) - (i + 1)) = many + ((Im.hexEnd s k (i + 1) - (i + 1)) + 1) from by omega]
  rw [next_end h1, if_neg (fun hh => h1 hh.1), Nat.sub_self]
  have : hexv 0 = none := rfl
  rw [this]; rfl
theorem esc_follows {s : List UInt8} {i : Nat} : escapeFollows (St s i) i = true ↔ i + 1 < s.length ∧ byteAt s i = 92 ∧ ¬ byteAt s (i + 1) = 10 ∧ ¬ byteAt s (i + 1) = 13 ∧ ¬ byteAt s (i + 1) = 12 := by
 unfold escapeFollows St
 simp only [Bool.and_eq_true, decide_eq_true_eq, beq_iff_eq, Bool.not_eq_true', beq_eq_false_iff_ne, ne_eq]
 constructor
 ·rintro ⟨⟨⟨⟨h1, h2⟩, h3⟩, h4⟩, h5⟩; exact ⟨h1, h2, h3, h4, h5⟩
 rintro ⟨h1, h2, h3, h4, h5⟩; exact ⟨⟨⟨⟨h1, h2⟩, h3⟩, h4⟩, h5⟩
theorem esc_none {s : List UInt8} {i : Nat} (h : escapeFollows (St s i) i = false) : Im.escape s i = none := by
 rw [Im.escape]
 by_cases h1 : s.length < i + 2 ∨ ¬ byteAt s i = 92
 ·rw [if_pos h1]
 rw [if_neg h1]
 by_cases h2 : byteAt s (i + 1) = 13 ∨ byteAt s (i + 1) = 10 ∨ byteAt s (i + 1) = 12
 ·rw [if_pos h2]
 exfalso
 have := esc_follows.2 (show i + 1 < s.length ∧ byteAt s i = 92 ∧ ¬ byteAt s (i + 1) = 10 ∧ ¬ byteAt s (i + 1) = 13 ∧ ¬ byteAt s (i + 1) = 12 from by omega)
 rw [h] at this; cases this
theorem taken_crlf {s : List UInt8} {i : Nat} (hi : i ≤ s.length) : taken (St s i) [13, 10] = if i + 1 < s.length ∧ byteAt s i = 13 ∧ byteAt s (i + 1) = 10 then (true, St s (i + 2)) else (false, St s i) := by
 have e : here (St s i) [13, 10] = true ↔ i + 1 < s.length ∧ byteAt s i = 13 ∧ byteAt s (i + 1) = 10 := by
  unfold here St
  simp only [Bool.and_eq_true, decide_eq_true_eq, List.length_cons, List.length_nil]
  constructor
  ·rintro ⟨h1, h2⟩
   have := (take2_eq (show i + 1 < s.length by omega) 13 10).1 (by rw [show i + 2 - i = 2 from by omega]; exact h2)
   exact ⟨om, this⟩
  rintro ⟨h1, h2⟩
  have := (take2_eq h1 13 10).2 h2
  rw [show i + 2 - i = 2 from by omega] at this
  exact ⟨om, this⟩
 rw [taken]
 by_cases h : here (St s i) [13, 10] = true
 ·rw [if_pos h, if_pos (e.1 h)]; rfl
 rw [if_neg h, if_neg (fun hh => h (e.2 hh))]
theorem esc_hex {s : List UInt8} {i : Nat} (h : escapeFollows (St s i) i = true) (hx : Im.hexDigit (byteAt s (i + 1)) = true) : (escape (St s i)).2.uns = true ∨ ∃ v j, Im.escape s i = some (v, j) ∧ escape (St s i) = (v, St s j) ∧ j ≤ s.length := by
 obtain ⟨h1, h2, h3, h4, h5⟩ := esc_follows.1 h
 have hle := Im.hexEnd_le s 6 (i + 1)
 have hpos : i + 2 ≤ Im.hexEnd s 6 (i + 1) := by
  rw [Im.hexEnd, if_pos ⟨h1, hx⟩]; exact (Im.hexEnd_le s 5 (i + 2)).1
 have hend := hle.2.2 om
 have hM : Im.escape s i = some (utf8 (Im.hexNum ((s.drop (i + 1)).take (Im.hexEnd s 6 (i + 1) - (i + 1)))), Im.hexSkip s (Im.hexEnd s 6 (i + 1))) := by
  rw [Im.escape, if_neg om, if_neg om, if_pos hx]
 have hs : (if (taken (St s (Im.hexEnd s 6 (i + 1))) [13, 10]).1 = false ∧ isSpace (next (taken (St s (Im.hexEnd s 6 (i + 1))) [13, 10]).2) then ((taken (St s (Im.hexEnd s 6 (i + 1))) [13, 10]).2.adv 1) else (taken (St s (Im.hexEnd s 6 (i + 1))) [13, 10]).2) = St s (Im.hexSkip s (Im.hexEnd s 6 (i + 1))) := by
  generalize Im.hexEnd s 6 (i + 1) = j at hend hpos
  rw [taken_crlf hend, Im.hexSkip]
  by_cases c1 : j + 1 < s.length ∧ byteAt s j = 13 ∧ byteAt s (j + 1) = 10
  ·rw [if_pos c1]
   simp only [Bool.true_eq_false, false_and, if_false]
   rw [if_pos om, if_pos c1.2.1, if_pos ⟨c1.1, c1.2.2⟩]
  rw [if_neg c1]
  simp only [true_and]
  by_cases c2 : j < s.length
  ·rw [next_St c2, if_pos c2]
   by_cases c3 : byteAt s j = 13
   ·rw [if_pos (show isSpace (byteAt s j) = true by rw [c3]; rfl), if_pos c3, if_neg (fun hh => c1 ⟨hh.1, c3, hh.2⟩)]; rfl
   rw [if_neg c3]
   by_cases c4 : byteAt s j = 32 ∨ byteAt s j = 9 ∨ byteAt s j = 10 ∨ byteAt s j = 12
   ·rw [if_pos c4, if_pos (show isSpace (byteAt s j) = true by unfold isSpace; simp; omega)]; rfl
   rw [if_neg c4, if_neg (show ¬ isSpace (byteAt s j) = true by unfold isSpace; simp; omega)]
  rw [next_end c2, if_neg c2, if_neg (show ¬ isSpace 0 = true by decide)]
 have hj : Im.hexSkip s (Im.hexEnd s 6 (i + 1)) ≤ s.length := (Im.hexSkip_le s _).2 hend
 have hg : hexGo 6 0 0 ((St s i).adv 1) = (Im.hexNum ((s.drop (i + 1)).take (Im.hexEnd s 6 (i + 1) - (i + 1))), 0 + (Im.hexEnd s 6 (i + 1) - (i + 1)), St s (Im.hexEnd s 6 (i + 1))) := hexGo_im s 6 (i + 1) 0 0 om
 have he : escape (St s i) = if Im.hexNum ((s.drop (i + 1)).take (Im.hexEnd s 6 (i + 1) - (i + 1))) = 0 ∨ Im.hexNum ((s.drop (i + 1)).take (Im.hexEnd s 6 (i + 1) - (i + 1))) = 65279 ∨ 1114111 < Im.hexNum ((s.drop (i + 1)).take (Im.hexEnd s 6 (i + 1) - (i + 1))) ∨ 55296 ≤ Im.hexNum ((s.drop (i + 1)).take (Im.hexEnd s 6 (i + 1) - (i + 1))) ∧ Im.hexNum ((s.drop (i + 1)).take (Im.hexEnd s 6 (i + 1) - (i + 1))) < 57344 then ([], (St s (Im.hexSkip s (Im.hexEnd s 6 (i + 1)))).unsure) else (utf8 (Im.hexNum ((s.drop (i + 1)).take (Im.hexEnd s 6 (i + 1) - (i + 1)))), St s (Im.hexSkip s (Im.hexEnd s 6 (i + 1)))) := by
  rw [escape]
  simp only [hg]
  rw [if_neg om, hs]
 rw [he]
 split
 ·exact .inl rfl
 exact .inr ⟨_, _, hM, rfl, hj⟩
theorem esc_plain {s : List UInt8} {i : Nat} (hr : readable s = true) (h : escapeFollows (St s i) i = true) (hx : ¬ Im.hexDigit (byteAt s (i + 1)) = true) : ∃ k, Im.escape s i = some ((s.drop (i + 1)).take 1, i + 2) ∧ escape (St s i) = ((s.drop (i + 1)).take (k + 1), St s (i + 1 + (k + 1))) ∧ i + 1 + (k + 1) ≤ s.length ∧ ∀ m, m < k → 128 ≤ byteAt s (i + 2 + m) := by
 obtain ⟨h1, h2, h3, h4, h5⟩ := esc_follows.1 h
 have hp := read_at s (s.length + 1) 0 om hr i om om h1
 refine ⟨(point s (i + 1)).2 - 1, ?_, ?_, ?_, ?_⟩
 ·rw [Im.escape, if_neg om, if_neg om, if_neg hx]
 ·have hg : hexGo 6 0 0 ((St s i).adv 1) = (0, 0, St s (i + 1)) := by
   have := hexGo_im s 6 (i + 1) 0 0 om
   have e : Im.hexEnd s 6 (i + 1) = i + 1 := by rw [Im.hexEnd, if_neg (fun hh => hx hh.2)]
   rw [e, Nat.sub_self] at this
   exact this
  rw [escape]
  simp only [hg, if_true]
  rw [show (point s (i + 1)).2 - 1 + 1 = (point s (i + 1)).2 from by omega]
  rfl
 ·have := point_le s (i + 1) h1; omega
 intro m hm
 have := point_cont (s := s) (i := i + 1) (m + 1) om om
 rwa [show i + 1 + (m + 1) = i + 2 + m from by omega] at this
theorem nameByte_eq (c : Nat) : nameByte c = Im.nameChar c := by
 unfold nameByte beginByte Im.nameChar
 rw [Bool.eq_iff_iff]; simp; omega
theorem beginByte_eq (c : Nat) : beginByte c = Im.nameStart c := by
 unfold beginByte Im.nameStart
 rw [Bool.eq_iff_iff]; simp; omega
theorem nameRun_fuel (s : List UInt8) : ∀ (k1 k2 i : Nat), s.length ≤ i + k1 → s.length ≤ i + k2 → Im.nameRun s k1 i = Im.nameRun s k2 i
 | 0, 0, i, _, _ => rfl
 | 0, k2 + 1, i, h1, _ => by rw [Im.nameRun, Im.nameRun, if_neg om]
 | k1 + 1, 0, i, _, h2 => by rw [Im.nameRun, Im.nameRun, if_neg om]
 | k1 + 1, k2 + 1, i, h1, h2 => by
  rw [Im.nameRun, Im.nameRun]
  split
  ·exact nameRun_fuel s k1 k2 (i + 1) om om
  rfl
theorem nameGo_fuel (s : List UInt8) : ∀ (n k1 k2 : Nat) (out : List UInt8) (i : Nat), s.length ≤ i + n → s.length < i + k1 → s.length < i + k2 → Im.nameGo s k1 out i = Im.nameGo s k2 out i := by
 intro n
 induction n using Nat.strongRecOn with
 | _ n ih =>
  intro k1 k2 out i hn h1 h2
  by_cases hi : i < s.length
  ·obtain ⟨k1, rfl⟩ := sU k1
   obtain ⟨k2, rfl⟩ := sU k2
   rw [Im.nameGo, Im.nameGo, if_pos hi, if_pos hi]
   split
   ·rename_i hc
    have := Im.nameRun_pos hi hc
    exact ih (n - 1) om k1 k2 _ _ om om om
   split
   ·cases hq : Im.escape s i with
    | none => rfl
    | some p =>
     obtain ⟨v, j⟩ := p
     have := Im.escape_le hq
     exact ih (n - 1) om k1 k2 _ _ om om om
   rfl
  have e : ∀ k, Im.nameGo s k out i = some (out, i) := by
   intro k
   cases k with
   | zero => rfl
   | succ k => rw [Im.nameGo, if_neg hi]
  rw [e, e]
theorem take_one_more {s : List UInt8} {i j : Nat} (hi : i < s.length) (hj : i + 1 ≤ j) : (s.drop i).take 1 ++ (s.drop (i + 1)).take (j - (i + 1)) = (s.drop i).take (j - i) := by
 rw [List.drop_eq_getElem_cons hi, show j - i = (j - (i + 1)) + 1 from by omega, List.take_succ_cons]
 rfl
theorem nameGo_step {s : List UInt8} {i k k' : Nat} {out : List UInt8} (hi : i < s.length) (hc : Im.nameChar (byteAt s i) = true) (h1 : s.length < i + k) (h2 : s.length < i + 1 + k') : Im.nameGo s k out i = Im.nameGo s k' (out ++ (s.drop i).take 1) (i + 1) := by
 obtain ⟨k, rfl⟩ := sU k
 rw [Im.nameGo, if_pos hi, if_pos hc]
 obtain ⟨L, hL⟩ : ∃ m, s.length = m + 1 := ⟨s.length - 1, om⟩
 have hrun : Im.nameRun s s.length i = Im.nameRun s L (i + 1) := by
  rw [hL, Im.nameRun, if_pos ⟨hi, hc⟩]
 rw [hrun]
 by_cases hd : i + 1 < s.length ∧ Im.nameChar (byteAt s (i + 1)) = true
 ·obtain ⟨k', rfl⟩ : ∃ m, k' = m + 1 := ⟨k' - 1, om⟩
  rw [Im.nameGo, if_pos hd.1, if_pos hd.2, nameRun_fuel s L s.length (i + 1) om om]
  have hp := Im.nameRun_pos hd.1 hd.2
  rw [List.append_assoc, take_one_more hi om]
  exact nameGo_fuel s s.length _ _ _ _ om om om
 have e : Im.nameRun s L (i + 1) = i + 1 := by
  cases L with
  | zero => rfl
  | succ L => rw [Im.nameRun, if_neg hd]
 rw [e, show i + 1 - i = 1 from by omega]
 exact nameGo_fuel s s.length _ _ _ _ om om om
theorem nameGo_steps {s : List UInt8} : ∀ (m i k k' : Nat) (out : List UInt8), i + m ≤ s.length → (∀ a, a < m → 128 ≤ byteAt s (i + a)) → s.length < i + k → s.length < i + m + k' → Im.nameGo s k out i = Im.nameGo s k' (out ++ (s.drop i).take m) (i + m)
 | 0, i, k, k', out, hm, hc, h1, h2 => by
  rw [List.take_zero, List.append_nil]
  exact nameGo_fuel s s.length _ _ _ _ om om om
 | m + 1, i, k, k', out, hm, hc, h1, h2 => by
  have h0 := hc 0 om
  rw [Nat.add_zero] at h0
  rw [nameGo_step (k' := s.length + 1) om (by unfold Im.nameChar; simp; omega) h1 om]
  rw [nameGo_steps m (i + 1) (s.length + 1) k' _ om (fun a ha => by have := hc (a + 1) om; rwa [show i + 1 + a = i + (a + 1) from by omega]) om om]
  rw [List.append_assoc]
  have := take_one_more (s := s) (i := i) (j := i + (m + 1)) om om
  rw [show i + (m + 1) - (i + 1) = m from by omega, show i + (m + 1) - i = m + 1 from by omega] at this
  rw [this, show i + 1 + m = i + (m + 1) from by omega]
theorem rest_name {s : List UInt8} (hr : readable s = true) : ∀ (n k1 k2 : Nat) (out : List UInt8) (i : Nat), s.length ≤ i + n → i ≤ s.length → s.length < i + k1 → s.length < i + k2 →
 (restGo k1 out (St s i)).2.uns = true ∨ (Im.nameGo s k2 out i = none ∧ (restGo k1 out (St s i)).2 = St s (restGo k1 out (St s i)).2.pos ∧ Stuck s (restGo k1 out (St s i)).2.pos) ∨ ∃ v j, Im.nameGo s k2 out i = some (v, j) ∧ restGo k1 out (St s i) = (v, St s j) ∧ j ≤ s.length := by
 intro n
 induction n using Nat.strongRecOn with
 | _ n ih =>
  intro k1 k2 out i hn hi h1 h2
  obtain ⟨k1, rfl⟩ := sU k1
  obtain ⟨k2, rfl⟩ := sU k2
  by_cases hlt : i < s.length
  ·rw [restGo, if_pos (show (St s i).pos < (St s i).s.length ∧ (St s i).bad = false from ⟨hlt, rfl⟩), next_St hlt, nameByte_eq]
   by_cases hc : Im.nameChar (byteAt s i) = true
   ·rw [if_pos hc, nameGo_step (k' := s.length + 1) hlt hc h2 om]
    exact ih (n - 1) om k1 (s.length + 1) _ (i + 1) om om om om
   rw [if_neg hc]
   cases he : escapeFollows (St s i) i with
   | false =>
    rw [if_neg (by simp [St] at he ⊢; simpa using he)]
    by_cases hb : byteAt s i = 92
    ·right; left
     refine ⟨?_, rfl, hlt, hb, he⟩
     rw [Im.nameGo, if_pos hlt, if_neg hc, if_pos hb, esc_none he]
    right; right
    refine ⟨out, i, ?_, rfl, hi⟩
    rw [Im.nameGo, if_pos hlt, if_neg hc, if_neg hb]
   | true =>
    rw [if_pos (show escapeFollows (St s i) (St s i).pos = true from he)]
    obtain ⟨e1, e2, -⟩ := esc_follows.1 he
    rw [Im.nameGo, if_pos hlt, if_neg hc, if_pos e2]
    by_cases hx : Im.hexDigit (byteAt s (i + 1)) = true
    ·rcases esc_hex he hx with hu | ⟨v, j, hM, hE, hj⟩
     ·left
      exact (restGo_le k1 _ _ (escape_le (St s i) e1).1.ok).1.uns hu
     rw [hM, hE]
     have := Im.escape_le hM
     exact ih (n - 1) om k1 k2 _ j om hj om om
    obtain ⟨k, hM, hE, hk, hcont⟩ := esc_plain hr he hx
    rw [hM, hE]
    simp only
    rw [nameGo_steps k (i + 2) k2 (s.length + 1) _ om hcont om om]
    have ht : (s.drop (i + 1)).take 1 ++ (s.drop (i + 2)).take k = (s.drop (i + 1)).take (k + 1) := by
     have := take_one_more (s := s) (i := i + 1) (j := i + 1 + (k + 1)) e1 om
     rwa [show i + 1 + (k + 1) - (i + 1 + 1) = k from by omega, show i + 1 + (k + 1) - (i + 1) = k + 1 from by omega] at this
    rw [List.append_assoc, ht, show i + 2 + k = i + 1 + (k + 1) from by omega]
    exact ih (n - 1) om k1 (s.length + 1) _ _ om hk om om
  rw [restGo, if_neg (fun hh => hlt hh.1)]
  exact .inr (.inr ⟨out, i, by rw [Im.nameGo, if_neg hlt], rfl, hi⟩)
theorem nameGo_prefix (s p : List UInt8) : ∀ (k : Nat) (out : List UInt8) (i : Nat), Im.nameGo s k (p ++ out) i = (Im.nameGo s k out i).map fun x => (p ++ x.1, x.2)
 | 0, out, i => rfl
 | k + 1, out, i => by
  rw [Im.nameGo, Im.nameGo]
  split
  ·split
   ·rw [List.append_assoc, nameGo_prefix s p k]
   split
   ·cases Im.escape s i with
    | none => rfl
    | some q =>
     obtain ⟨v, j⟩ := q
     simp only
     rw [List.append_assoc, nameGo_prefix s p k]
   rfl
  rfl
theorem nameGo_len (s : List UInt8) : ∀ (k : Nat) (out : List UInt8) (i : Nat) (v : List UInt8) (j : Nat), Im.nameGo s k out i = some (v, j) → out.length ≤ v.length
 | 0, out, i, v, j, h => by
  simp only [Im.nameGo, Option.some.injEq, Prod.mk.injEq] at h
  obtain ⟨rfl, rfl⟩ := h; exact Nat.le_refl _
 | k + 1, out, i, v, j, h => by
  rw [Im.nameGo] at h
  split at h
  ·split at h
   ·have := nameGo_len s k _ _ v j h
    simp only [List.length_append] at this; omega
   split at h
   ·cases hq : Im.escape s i with
    | none => rw [hq] at h; cases h
    | some q =>
     obtain ⟨u, j'⟩ := q
     rw [hq] at h
     have := nameGo_len s k _ _ v j h
     simp only [List.length_append] at this; omega
   simp only [Option.some.injEq, Prod.mk.injEq] at h
   obtain ⟨rfl, rfl⟩ := h; exact Nat.le_refl _
  simp only [Option.some.injEq, Prod.mk.injEq] at h
  obtain ⟨rfl, rfl⟩ := h; exact Nat.le_refl _
theorem encode_ne (n : Int) : 1 ≤ (bytesOf (Utf8.encode n)).length := by
 unfold Utf8.encode bytesOf
 generalize (if Utf8.valid n = true then n.toNat else Utf8.runeError) = c
 show 1 ≤ (ByteArray.data (if c < 128 then _ else if c < 2048 then _ else if c < 65536 then _ else _)).toList.length
 split
 ·exact (by decide : 1 ≤ 1)
 split
 ·exact (by decide : 1 ≤ 2)
 split
 ·exact (by decide : 1 ≤ 3)
 exact (by decide : 1 ≤ 4)
theorem utf8_ne (n : Nat) : 1 ≤ (utf8 n).length := encode_ne n
theorem escape_ne {s : List UInt8} {i : Nat} {v : List UInt8} {j : Nat} (h : Im.escape s i = some (v, j)) : 1 ≤ v.length := by
 rw [Im.escape] at h
 split at h
 ·cases h
 split at h
 ·cases h
 split at h
 ·simp only [Option.some.injEq, Prod.mk.injEq] at h
  obtain ⟨rfl, rfl⟩ := h; exact utf8_ne _
 simp only [Option.some.injEq, Prod.mk.injEq] at h
 obtain ⟨rfl, rfl⟩ := h
 simp only [List.length_take, List.length_drop]; omega
theorem nameGo_ne {s : List UInt8} {k i : Nat} {v : List UInt8} {j : Nat} (hi : i < s.length) (hc : Im.nameChar (byteAt s i) = true ∨ byteAt s i = 92) (h : Im.nameGo s (k + 1) [] i = some (v, j)) : v ≠ [] := by
 rw [Im.nameGo, if_pos hi] at h
 have key : 1 ≤ v.length := by
  split at h
  ·rename_i h1
   have := nameGo_len s k _ _ v j h
   have hp := Im.nameRun_pos hi h1
   simp only [List.nil_append, List.length_take, List.length_drop] at this
   omega
  rename_i h1
  have hb : byteAt s i = 92 := hc.resolve_left h1
  rw [if_pos hb] at h
  cases hq : Im.escape s i with
  | none => rw [hq] at h; cases h
  | some q =>
   obtain ⟨u, j'⟩ := q
   rw [hq] at h
   have := nameGo_len s k _ _ v j h
   have := escape_ne hq
   simp only [List.nil_append] at *
   omega
 intro e; rw [e] at key; simp at key
theorem name_im {s : List UInt8} {i : Nat} (hi : i < s.length) (hc : Im.nameChar (byteAt s i) = true ∨ byteAt s i = 92) : Im.name s i = Im.nameGo s (s.length + 1) [] i := by
 rw [Im.name]
 cases hq : Im.nameGo s (s.length + 1) [] i with
 | none => rfl
 | some p =>
  obtain ⟨v, j⟩ := p
  exact if_neg (nameGo_ne hi hc hq)
theorem rest_im {s : List UInt8} {i : Nat} (hr : readable s = true) (hi : i < s.length) (hc : Im.nameChar (byteAt s i) = true ∨ byteAt s i = 92) :
 (rest (St s i)).2.uns = true ∨ (Im.name s i = none ∧ (rest (St s i)).2 = St s (rest (St s i)).2.pos ∧ Stuck s (rest (St s i)).2.pos) ∨ ∃ v j, Im.name s i = some (v, j) ∧ rest (St s i) = (v, St s j) ∧ j ≤ s.length := by
 rw [name_im hi hc]
 exact rest_name hr s.length (s.length + 1) (s.length + 1) [] i om om om om
theorem dashEnd_fuel (s : List UInt8) : ∀ (k i : Nat), s.length < i + k → (¬ i < s.length ∨ ¬ byteAt s i = 45) → Im.dashEnd s k i = i
 | 0, i, h, _ => rfl
 | k + 1, i, h, hb => by rw [Im.dashEnd, if_neg (fun hh => by rcases hb with h1 | h1; exact h1 hh.1; exact h1 hh.2)]
theorem name_ident {s : List UInt8} {i : Nat} (hr : readable s = true) (hi : i ≤ s.length) :
 (name (St s i)).2.uns = true ∨ (Im.ident s i = none ∧ (name (St s i)).2.s = s ∧ (name (St s i)).2.ps = true ∧ (name (St s i)).2.uns = false ∧ ((name (St s i)).2.bad = true ∨ (name (St s i)).2 = St s (name (St s i)).2.pos ∧ Stuck s (name (St s i)).2.pos)) ∨ ∃ v j, Im.ident s i = some (v, j) ∧ name (St s i) = (v, St s j) ∧ j ≤ s.length := by
 by_cases hd : i < s.length ∧ byteAt s i = 45
 ·by_cases hdd : i + 1 < s.length ∧ byteAt s (i + 1) = 45
  ·left
   have hle := name_le (St s i) (show i ≤ s.length + 1 by omega)
   have hn : nameFollows (St s i) = (decide (i + 1 < s.length) && beginByte (byteAt s (i + 1)) || escapeFollows (St s i) (i + 1), (St s i).unsure) := by
    unfold nameFollows
    rw [if_pos (show (St s i).pos < (St s i).s.length ∧ byteAt (St s i).s (St s i).pos = 45 from hd)]
    simp only
    rw [if_pos (show (St s i).pos + 1 < (St s i).s.length ∧ byteAt (St s i).s ((St s i).pos + 1) = 45 from hdd)]
    rfl
   unfold name
   rw [hn]
   simp only
   split
   ·exact (rest_le _ (show Ok (St s i).unsure by show i ≤ s.length + 1; omega)).1.uns rfl
   rfl
  have hn : nameFollows (St s i) = (decide (i + 1 < s.length) && beginByte (byteAt s (i + 1)) || escapeFollows (St s (i + 1)) (i + 1), St s i) := by
   unfold nameFollows
   rw [if_pos (show (St s i).pos < (St s i).s.length ∧ byteAt (St s i).s (St s i).pos = 45 from hd)]
   simp only
   rw [if_neg (show ¬ ((St s i).pos + 1 < (St s i).s.length ∧ byteAt (St s i).s ((St s i).pos + 1) = 45) from hdd)]
   rfl
  have hde : Im.dashEnd s (s.length + 1) i = i + 1 := by
   rw [Im.dashEnd, if_pos hd]
   exact dashEnd_fuel s _ _ om (by by_cases h : i + 1 < s.length; exact .inr (fun e => hdd ⟨h, e⟩); exact .inl h)
  have hid : Im.ident s i = Im.identAt s i (i + 1) := by rw [Im.ident, hde]
  unfold name
  rw [hn, hid]
  simp only
  by_cases hb : (decide (i + 1 < s.length) && beginByte (byteAt s (i + 1)) || escapeFollows (St s (i + 1)) (i + 1)) = true
  ·rw [if_pos hb]
   have hi1 : i + 1 < s.length ∧ (Im.nameStart (byteAt s (i + 1)) = true ∨ byteAt s (i + 1) = 92) := by
    rw [Bool.or_eq_true, Bool.and_eq_true, decide_eq_true_eq, beginByte_eq] at hb
    rcases hb with hb | hb
    ·exact ⟨hb.1, .inl hb.2⟩
    have := esc_follows.1 hb; exact ⟨om, .inr this.2.1⟩
   have hc1 : Im.nameChar (byteAt s (i + 1)) = true ∨ byteAt s (i + 1) = 92 := by
    rcases hi1.2 with h | h
    ·left; unfold Im.nameStart at h; unfold Im.nameChar; simp at h ⊢; omega
    exact .inr h
   have hc45 : Im.nameChar (byteAt s i) = true := by rw [hd.2]; rfl
   have hstep : Im.name s i = (Im.name s (i + 1)).map fun x => ([45] ++ x.1, x.2) := by
    rw [name_im hd.1 (.inl hc45), name_im hi1.1 hc1, nameGo_step (k' := s.length + 1) hd.1 hc45 om om]
    have ht : (s.drop i).take 1 = [45] := by
     rw [List.drop_eq_getElem_cons hd.1]
     have : s[i] = 45 := by
      have h45 := hd.2
      simp only [byteAt, List.getD_eq_getElem?_getD, List.getElem?_eq_getElem hd.1, Option.getD_some] at h45
      exact UInt8.toNat_inj.1 h45
     rw [this]; rfl
    rw [List.nil_append, ht, ← nameGo_prefix, List.append_nil]
   have hat : Im.identAt s i (i + 1) = (Im.name s (i + 1)).map fun x => ([45] ++ x.1, x.2) := by
    rw [Im.identAt, if_neg om, if_neg (fun hh => hh hi1.2), show i + 1 - i = 1 from by omega]
    cases Im.name s (i + 1) <;> rfl
   rw [hat, ← hstep]
   rcases rest_im hr hd.1 (.inl hc45) with h | h | h
   ·exact .inl h
   ·right; left
    refine ⟨h.1, ?_, ?_, ?_, .inr h.2⟩ <;> rw [h.2.1] <;> rfl
   exact .inr (.inr h)
  rw [if_neg hb]
  right; left
  refine ⟨?_, rfl, rfl, rfl, .inl rfl⟩
  rw [Im.identAt]
  by_cases h1 : s.length ≤ i + 1
  ·rw [if_pos h1]
  rw [if_neg h1]
  rw [Bool.or_eq_true, Bool.and_eq_true, decide_eq_true_eq, beginByte_eq] at hb
  by_cases h2 : Im.nameStart (byteAt s (i + 1)) = true ∨ byteAt s (i + 1) = 92
  ·rw [if_neg (fun hh => hh h2)]
   have h92 : byteAt s (i + 1) = 92 := by
    rcases h2 with h2 | h2
    ·exact absurd (.inl ⟨om, h2⟩) hb
    exact h2
   have he : escapeFollows (St s (i + 1)) (i + 1) = false := by
    cases hq : escapeFollows (St s (i + 1)) (i + 1) with
    | false => rfl
    | true => exact absurd (.inr hq) hb
   have hnc : ¬ Im.nameChar 92 = true := by decide
   rw [name_im om (.inr h92), Im.nameGo, if_pos om, h92, if_neg hnc, if_pos rfl, esc_none he]
  rw [if_pos h2]
 have hn : nameFollows (St s i) = (decide (i < s.length) && beginByte (byteAt s i) || escapeFollows (St s i) i, St s i) := by
  unfold nameFollows
  rw [if_neg (show ¬ ((St s i).pos < (St s i).s.length ∧ byteAt (St s i).s (St s i).pos = 45) from hd)]
  rfl
 have hde : Im.dashEnd s (s.length + 1) i = i := dashEnd_fuel s _ _ om (by by_cases h : i < s.length; exact .inr (fun e => hd ⟨h, e⟩); exact .inl h)
 have hid : Im.ident s i = Im.identAt s i i := by rw [Im.ident, hde]
 unfold name
 rw [hn, hid]
 simp only
 by_cases hb : (decide (i < s.length) && beginByte (byteAt s i) || escapeFollows (St s i) i) = true
 ·rw [if_pos hb]
  have hi1 : i < s.length ∧ (Im.nameStart (byteAt s i) = true ∨ byteAt s i = 92) := by
   rw [Bool.or_eq_true, Bool.and_eq_true, decide_eq_true_eq, beginByte_eq] at hb
   rcases hb with hb | hb
   ·exact ⟨hb.1, .inl hb.2⟩
   have := esc_follows.1 hb; exact ⟨om, .inr this.2.1⟩
  have hc1 : Im.nameChar (byteAt s i) = true ∨ byteAt s i = 92 := by
   rcases hi1.2 with h | h
   ·left; unfold Im.nameStart at h; unfold Im.nameChar; simp at h ⊢; omega
   exact .inr h
  have hat : Im.identAt s i i = Im.name s i := by
   rw [Im.identAt, if_neg om, if_neg (fun hh => hh hi1.2), Nat.sub_self]
   cases hq : Im.name s i with
   | none => rfl
   | some p => obtain ⟨v, j⟩ := p; rfl
  rw [hat]
  rcases rest_im hr hi1.1 hc1 with h | h | h
  ·exact .inl h
  ·right; left
   refine ⟨h.1, ?_, ?_, ?_, .inr h.2⟩ <;> rw [h.2.1] <;> rfl
  exact .inr (.inr h)
 rw [if_neg hb]
 right; left
 refine ⟨?_, rfl, rfl, rfl, .inl rfl⟩
 rw [Im.identAt]
 by_cases h1 : s.length ≤ i
 ·rw [if_pos h1]
 rw [if_neg h1]
 rw [Bool.or_eq_true, Bool.and_eq_true, decide_eq_true_eq, beginByte_eq] at hb
 by_cases h2 : Im.nameStart (byteAt s i) = true ∨ byteAt s i = 92
 ·rw [if_neg (fun hh => hh h2)]
  have h92 : byteAt s i = 92 := by
   rcases h2 with h2 | h2
   ·exact absurd (.inl ⟨om, h2⟩) hb
   exact h2
  have he : escapeFollows (St s i) i = false := by
   cases hq : escapeFollows (St s i) i with
   | false => rfl
   | true => exact absurd (.inr hq) hb
  have hnc : ¬ Im.nameChar 92 = true := by decide
  rw [name_im om (.inr h92), Im.nameGo, if_pos om, h92, if_neg hnc, if_pos rfl, esc_none he]
 rw [if_pos h2]
def Plain (q c : Nat) : Prop := ¬ (c = q ∨ c = 92 ∨ c = 13 ∨ c = 10 ∨ c = 12)
theorem strRun_fuel (s : List UInt8) (q : Nat) : ∀ (k1 k2 i : Nat), s.length ≤ i + k1 → s.length ≤ i + k2 → Im.strRun s q k1 i = Im.strRun s q k2 i
 | 0, 0, i, _, _ => rfl
 | 0, k2 + 1, i, h1, _ => by rw [Im.strRun, Im.strRun, if_neg om]
 | k1 + 1, 0, i, _, h2 => by rw [Im.strRun, Im.strRun, if_neg om]
 | k1 + 1, k2 + 1, i, h1, h2 => by
  rw [Im.strRun, Im.strRun]
  split
  ·exact strRun_fuel s q k1 k2 (i + 1) om om
  rfl
theorem strGo_end {s : List UInt8} {q k i : Nat} {out : List UInt8} (h : ¬ i < s.length) : Im.strGo s q k out i = none := by
 cases k with
 | zero => rfl
 | succ k => rw [Im.strGo, if_neg h]
theorem strGo_fuel (s : List UInt8) (q : Nat) : ∀ (n k1 k2 : Nat) (out : List UInt8) (i : Nat), s.length ≤ i + n → s.length < i + k1 → s.length < i + k2 → Im.strGo s q k1 out i = Im.strGo s q k2 out i := by
 intro n
 induction n using Nat.strongRecOn with
 | _ n ih =>
  intro k1 k2 out i hn h1 h2
  by_cases hi : i < s.length
  ·obtain ⟨k1, rfl⟩ := sU k1
   obtain ⟨k2, rfl⟩ := sU k2
   have go : ∀ (o : List UInt8) (j : Nat), i < j → Im.strGo s q k1 o j = Im.strGo s q k2 o j := fun o j hj => ih (n - 1) om k1 k2 o j om om om
   rw [Im.strGo, Im.strGo, if_pos hi, if_pos hi]
   split
   ·split
    ·split
     ·exact go _ _ om
     exact go _ _ om
    split
    ·exact go _ _ om
    cases hq : Im.escape s i with
    | none => rfl
    | some p =>
     obtain ⟨v, j⟩ := p
     have := Im.escape_le hq
     exact go _ _ om
   split
   ·rfl
   split
   ·rfl
   have := Im.strRun_pos (s := s) (q := q) hi om
   exact go _ _ om
  rw [strGo_end hi, strGo_end hi]
theorem strGo_step {s : List UInt8} {q i k k' : Nat} {out : List UInt8} (hi : i < s.length) (hc : Plain q (byteAt s i)) (h1 : s.length < i + k) (h2 : s.length < i + 1 + k') : Im.strGo s q k out i = Im.strGo s q k' (out ++ (s.drop i).take 1) (i + 1) := by
 obtain ⟨k, rfl⟩ := sU k
 unfold Plain at hc
 rw [Im.strGo, if_pos hi, if_neg om, if_neg om, if_neg om]
 obtain ⟨L, hL⟩ : ∃ m, s.length = m + 1 := ⟨s.length - 1, om⟩
 have hrun : Im.strRun s q s.length i = Im.strRun s q L (i + 1) := by
  rw [hL, Im.strRun, if_pos ⟨hi, hc⟩]
 rw [hrun]
 by_cases hd : i + 1 < s.length ∧ ¬ (byteAt s (i + 1) = q ∨ byteAt s (i + 1) = 92 ∨ byteAt s (i + 1) = 13 ∨ byteAt s (i + 1) = 10 ∨ byteAt s (i + 1) = 12)
 ·obtain ⟨k', rfl⟩ : ∃ m, k' = m + 1 := ⟨k' - 1, om⟩
  have hp := Im.strRun_pos (s := s) (q := q) hd.1 hd.2
  conv => rhs; rw [Im.strGo, if_pos hd.1, if_neg om, if_neg om, if_neg om]
  rw [strRun_fuel s q L s.length (i + 1) om om, List.append_assoc, take_one_more hi om]
  exact strGo_fuel s q s.length _ _ _ _ om om om
 have e : Im.strRun s q L (i + 1) = i + 1 := by
  cases L with
  | zero => rfl
  | succ L => rw [Im.strRun, if_neg hd]
 rw [e, show i + 1 - i = 1 from by omega]
 exact strGo_fuel s q s.length _ _ _ _ om om om
theorem strGo_steps {s : List UInt8} {q : Nat} (hq : q < 128) : ∀ (m i k k' : Nat) (out : List UInt8), i + m ≤ s.length → (∀ a, a < m → 128 ≤ byteAt s (i + a)) → s.length < i + k → s.length < i + m + k' → Im.strGo s q k out i = Im.strGo s q k' (out ++ (s.drop i).take m) (i + m)
 | 0, i, k, k', out, hm, hc, h1, h2 => by
  rw [List.take_zero, List.append_nil]
  exact strGo_fuel s q s.length _ _ _ _ om om om
 | m + 1, i, k, k', out, hm, hc, h1, h2 => by
  have h0 := hc 0 om
  rw [Nat.add_zero] at h0
  rw [strGo_step (k' := s.length + 1) om (by unfold Plain; omega) h1 om]
  rw [strGo_steps hq m (i + 1) (s.length + 1) k' _ om (fun a ha => by have := hc (a + 1) om; rwa [show i + 1 + a = i + (a + 1) from by omega]) om om]
  rw [List.append_assoc]
  have := take_one_more (s := s) (i := i) (j := i + (m + 1)) om om
  rw [show i + (m + 1) - (i + 1) = m from by omega, show i + (m + 1) - i = m + 1 from by omega] at this
  rw [this, show i + 1 + m = i + (m + 1) from by omega]
theorem quoted_str {s : List UInt8} (hr : readable s = true) {q : Nat} (hq : q = 34 ∨ q = 39) : ∀ (n k1 k2 : Nat) (out : List UInt8) (i : Nat), s.length ≤ i + n → i ≤ s.length + 1 → s.length < i + k1 → s.length < i + k2 →
 (quotedGo q k1 out (St s i)).2.uns = true ∨ (Im.strGo s q k2 out i = none ∧ (quotedGo q k1 out (St s i)).2.s = s ∧ (quotedGo q k1 out (St s i)).2.ps = true ∧ (quotedGo q k1 out (St s i)).2.uns = false ∧ (quotedGo q k1 out (St s i)).2.bad = true) ∨ ∃ v j, Im.strGo s q k2 out i = some (v, j) ∧ quotedGo q k1 out (St s i) = (v, St s j) ∧ j ≤ s.length := by
 intro n
 induction n using Nat.strongRecOn with
 | _ n ih =>
  intro k1 k2 out i hn hi h1 h2
  by_cases hlt : i < s.length
  ·obtain ⟨k1, rfl⟩ := sU k1
   have go : ∀ (o : List UInt8) (j k : Nat), i < j → j ≤ s.length + 1 → s.length < j + k → _ := fun o j k hj hj2 hk => ih (n - 1) om k1 k o j om hj2 om hk
   rw [quotedGo, if_pos (show (St s i).pos < (St s i).s.length from hlt)]
   simp only [next_St hlt]
   by_cases c1 : byteAt s i = q
   ·rw [if_pos c1]
    obtain ⟨k2, rfl⟩ := sU k2
    right; right
    refine ⟨out, i + 1, ?_, rfl, om⟩
    rw [Im.strGo, if_pos hlt, if_neg om, if_pos c1]
   rw [if_neg c1]
   by_cases c2 : byteAt s i = 10 ∨ byteAt s i = 13 ∨ byteAt s i = 12
   ·rw [if_pos c2]
    obtain ⟨k2, rfl⟩ := sU k2
    right; left
    refine ⟨?_, rfl, rfl, rfl, rfl⟩
    rw [Im.strGo, if_pos hlt, if_neg om, if_neg c1, if_pos om]
   rw [if_neg c2]
   by_cases c3 : byteAt s i = 92
   ·rw [if_neg (fun hh => hh c3)]
    cases he : escapeFollows (St s i) i with
    | true =>
     rw [if_pos (show escapeFollows (St s i) (St s i).pos = true from he)]
     obtain ⟨e1, e2, e3, e4, e5⟩ := esc_follows.1 he
     obtain ⟨k2, rfl⟩ := sU k2
     rw [Im.strGo, if_pos hlt, if_pos c3, if_neg om, if_neg om]
     by_cases hx : Im.hexDigit (byteAt s (i + 1)) = true
     ·rcases esc_hex he hx with hu | ⟨v, j, hM, hE, hj⟩
      ·left
       exact (quotedGo_le q k1 _ _ (escape_le (St s i) e1).1.ok).1.uns hu
      rw [hM, hE]
      have := Im.escape_le hM
      exact go _ j k2 om om om
     obtain ⟨k, hM, hE, hk, hcont⟩ := esc_plain hr he hx
     rw [hM, hE]
     simp only
     rw [strGo_steps om k (i + 2) k2 (s.length + 1) _ om hcont om om]
     have ht : (s.drop (i + 1)).take 1 ++ (s.drop (i + 2)).take k = (s.drop (i + 1)).take (k + 1) := by
      have := take_one_more (s := s) (i := i + 1) (j := i + 1 + (k + 1)) e1 om
      rwa [show i + 1 + (k + 1) - (i + 1 + 1) = k from by omega, show i + 1 + (k + 1) - (i + 1) = k + 1 from by omega] at this
     rw [List.append_assoc, ht, show i + 2 + k = i + 1 + (k + 1) from by omega]
     exact go _ _ (s.length + 1) om om om
    | false =>
     rw [if_neg (show ¬ escapeFollows (St s i) (St s i).pos = true from by rw [show escapeFollows (St s i) (St s i).pos = escapeFollows (St s i) i from rfl, he]; decide)]
     obtain ⟨k2, rfl⟩ := sU k2
     have ht : taken ((St s i).adv 1) [13, 10] = if i + 1 + 1 < s.length ∧ byteAt s (i + 1) = 13 ∧ byteAt s (i + 1 + 1) = 10 then (true, St s (i + 1 + 2)) else (false, St s (i + 1)) := taken_crlf (s := s) (i := i + 1) om
     rw [ht, Im.strGo, if_pos hlt, if_pos c3]
     by_cases d1 : i + 1 < s.length ∧ byteAt s (i + 1) = 13
     ·rw [if_pos d1]
      by_cases d2 : i + 2 < s.length ∧ byteAt s (i + 2) = 10
      ·rw [if_pos (show i + 1 + 1 < s.length ∧ byteAt s (i + 1) = 13 ∧ byteAt s (i + 1 + 1) = 10 from ⟨d2.1, d1.2, d2.2⟩), if_pos d2]
       exact go out (i + 3) k2 om om om
      rw [if_neg (show ¬ (i + 1 + 1 < s.length ∧ byteAt s (i + 1) = 13 ∧ byteAt s (i + 1 + 1) = 10) from fun hh => d2 ⟨hh.1, hh.2.2⟩), if_neg d2]
      exact go out (i + 2) k2 om om om
     rw [if_neg d1, if_neg (show ¬ (i + 1 + 1 < s.length ∧ byteAt s (i + 1) = 13 ∧ byteAt s (i + 1 + 1) = 10) from fun hh => d1 ⟨om, hh.2.1⟩)]
     by_cases d3 : i + 1 < s.length ∧ (byteAt s (i + 1) = 10 ∨ byteAt s (i + 1) = 12)
     ·rw [if_pos d3]
      exact go out (i + 2) k2 om om om
     rw [if_neg d3, esc_none he]
     have hend : s.length = i + 1 := by
      by_cases h3 : i + 1 < s.length
      ·exfalso
       have := esc_follows.2 (show i + 1 < s.length ∧ byteAt s i = 92 ∧ ¬ byteAt s (i + 1) = 10 ∧ ¬ byteAt s (i + 1) = 13 ∧ ¬ byteAt s (i + 1) = 12 from by omega)
       rw [he] at this; cases this
      omega
     obtain ⟨k1, rfl⟩ | rfl : (∃ m, k1 = m + 1) ∨ k1 = 0 := by
      cases k1 with
      | zero => exact .inr rfl
      | succ m => exact .inl ⟨m, rfl⟩
     ·have hX : quotedGo q (k1 + 1) out (St s (i + 2)) = ([], (St s (i + 2)).refuse) := by
       rw [quotedGo, if_neg (show ¬ (St s (i + 2)).pos < (St s (i + 2)).s.length from by show ¬ i + 2 < s.length; omega)]
      right; left
      refine ⟨rfl, ?_⟩
      show (quotedGo q (k1 + 1) out (St s (i + 2))).2.s = s ∧ _
      rw [show (if false = true then St s (i + 1) else (St s (i + 1)).adv 1) = St s (i + 2) from rfl, hX]
      exact ⟨rfl, rfl, rfl, rfl⟩
     right; left
     exact ⟨rfl, rfl, rfl, rfl, rfl⟩
   rw [if_pos c3, strGo_step (k' := s.length + 1) hlt (by unfold Plain; omega) h2 om]
   exact go _ (i + 1) (s.length + 1) om om om
  right; left
  have hX : quotedGo q k1 out (St s i) = ([], (St s i).refuse) := by
   cases k1 with
   | zero => rfl
   | succ k1 => rw [quotedGo, if_neg (show ¬ (St s i).pos < (St s i).s.length from hlt)]
  rw [hX, strGo_end hlt]
  exact ⟨rfl, rfl, rfl, rfl, rfl⟩
def Out (s : List UInt8) (R : List UInt8 × Rd) (M : Option (List UInt8 × Nat)) : Prop :=
 R.2.uns = true ∨ (M = none ∧ R.2.s = s ∧ R.2.ps = true ∧ R.2.uns = false ∧ (R.2.bad = true ∨ R.2 = St s R.2.pos ∧ Stuck s R.2.pos)) ∨ ∃ v j, M = some (v, j) ∧ R = (v, St s j) ∧ j ≤ s.length
theorem name_out {s : List UInt8} {i : Nat} (hr : readable s = true) (hi : i ≤ s.length) : Out s (name (St s i)) (Im.ident s i) := name_ident hr hi
theorem nf_dash {s : List UInt8} {i : Nat} (h : i < s.length ∧ byteAt s i = 45) : (nameFollows (St s i)).2.uns = true ∨ (nameFollows (St s i)).2 = St s i := by
 unfold nameFollows
 rw [if_pos (show (St s i).pos < (St s i).s.length ∧ byteAt (St s i).s (St s i).pos = 45 from h)]
 simp only
 split
 ·exact .inl rfl
 exact .inr rfl
theorem nf_other {s : List UInt8} {i : Nat} (h : ¬ (i < s.length ∧ byteAt s i = 45)) : nameFollows (St s i) = (decide (i < s.length) && beginByte (byteAt s i) || escapeFollows (St s i) i, St s i) := by
 unfold nameFollows
 rw [if_neg (show ¬ ((St s i).pos < (St s i).s.length ∧ byteAt (St s i).s (St s i).pos = 45) from h)]
 rfl
theorem name_none {s : List UInt8} {i : Nat} (h1 : ¬ (i < s.length ∧ Im.nameChar (byteAt s i) = true)) (h2 : escapeFollows (St s i) i = false) : Im.name s i = none := by
 rw [Im.name]
 by_cases h : i < s.length
 ·rw [Im.nameGo, if_pos h, if_neg (fun hh => h1 ⟨h, hh⟩)]
  by_cases hb : byteAt s i = 92
  ·rw [if_pos hb, esc_none h2]
  rw [if_neg hb]
  exact if_pos rfl
 rw [Im.nameGo, if_neg h]
 exact if_pos rfl
theorem hash_out {s : List UInt8} {i : Nat} (hr : readable s = true) (hi : i ≤ s.length) : Out s (Sp.hash (St s i)) (Im.name s i) := by
 have hle := nameFollows_le (St s i) (show i ≤ s.length + 1 by omega)
 have key : (nameFollows (St s i)).2.uns = true ∨ (nameFollows (St s i)).2 = St s i := by
  by_cases hd : i < s.length ∧ byteAt s i = 45
  ·exact nf_dash hd
  rw [nf_other hd]; exact .inr rfl
 unfold Sp.hash
 generalize hN : nameFollows (St s i) = N at key hle
 obtain ⟨is, r1⟩ := N
 simp only at key hle ⊢
 rcases key with hu | rfl
 ·left
  have h2 : (if is = true then r1 else (r1.orUns (nameByte (next r1))).orBad (!nameByte (next r1))).uns = true := by
   split
   ·exact hu
   show (r1.uns || nameByte (next r1)) = true; rw [hu]; rfl
  have hok : Ok (if is = true then r1 else (r1.orUns (nameByte (next r1))).orBad (!nameByte (next r1))) := by
   split
   ·exact hle.ok
   exact hle.ok
  generalize (if is = true then r1 else (r1.orUns (nameByte (next r1))).orBad (!nameByte (next r1))) = r2 at h2 hok
  split
  ·exact h2
  exact (rest_le r2 hok).1.uns h2
 cases is with
 | true =>
  show Out s (if (St s i).bad = true then ([], St s i) else rest (St s i)) _
  rw [if_neg (show ¬ (St s i).bad = true from by simp [St])]
  have hi1 : i < s.length ∧ (Im.nameChar (byteAt s i) = true ∨ byteAt s i = 92) := by
   by_cases hd : i < s.length ∧ byteAt s i = 45
   ·exact ⟨hd.1, .inl (by rw [hd.2]; rfl)⟩
   rw [nf_other hd] at hN
   have hN1 := congrArg Prod.fst hN
   simp only [Bool.or_eq_true, Bool.and_eq_true, decide_eq_true_eq, beginByte_eq] at hN1
   rcases hN1 with h | h
   ·refine ⟨h.1, .inl ?_⟩
    have h2 := h.2
    unfold Im.nameStart at h2; unfold Im.nameChar; simp at h2 ⊢; omega
   have := esc_follows.1 h; exact ⟨om, .inr this.2.1⟩
  rcases rest_im hr hi1.1 hi1.2 with h | h | h
  ·exact .inl h
  ·right; left
   refine ⟨h.1, ?_, ?_, ?_, .inr h.2⟩ <;> rw [h.2.1] <;> rfl
  exact .inr (.inr h)
 | false =>
  show Out s (if (((St s i).orUns (nameByte (next (St s i)))).orBad (!nameByte (next (St s i)))).bad = true then ([], ((St s i).orUns (nameByte (next (St s i)))).orBad (!nameByte (next (St s i)))) else rest (((St s i).orUns (nameByte (next (St s i)))).orBad (!nameByte (next (St s i))))) _
  by_cases hb : nameByte (next (St s i)) = true
  ·left
   rw [hb]
   have hok : Ok ((St s i).orUns true) := by show i ≤ s.length + 1; omega
   have h2 : (((St s i).orUns true).orBad (!true)).uns = true := rfl
   split
   ·exact h2
   exact (rest_le _ hok).1.uns h2
  have hbf : nameByte (next (St s i)) = false := by simpa using hb
  rw [hbf]
  right; left
  refine ⟨?_, rfl, rfl, rfl, .inl rfl⟩
  have hnc : ¬ (i < s.length ∧ Im.nameChar (byteAt s i) = true) := fun hh => by
   rw [next_St hh.1, nameByte_eq, hh.2] at hbf; cases hbf
  refine name_none hnc ?_
  have hd : ¬ (i < s.length ∧ byteAt s i = 45) := fun hh => hnc ⟨hh.1, by rw [hh.2]; rfl⟩
  rw [nf_other hd] at hN
  have hN1 := congrArg Prod.fst hN
  simp only [Bool.or_eq_false_iff] at hN1
  exact hN1.2
theorem nf_key {s : List UInt8} {i : Nat} : (nameFollows (St s i)).2.uns = true ∨ (nameFollows (St s i)).2 = St s i := by
 by_cases hd : i < s.length ∧ byteAt s i = 45
 ·exact nf_dash hd
 rw [nf_other hd]; exact .inr rfl
theorem byteAt_end {s : List UInt8} {i : Nat} (h : ¬ i < s.length) : byteAt s i = 0 := by
 simp [byteAt, List.getD_eq_getElem?_getD, List.getElem?_eq_none (show s.length ≤ i by omega)]
theorem next_byte (s : List UInt8) (i : Nat) : next (St s i) = byteAt s i := by
 by_cases h : i < s.length
 ·exact next_St h
 rw [next_end h, byteAt_end h]
theorem value_out {s : List UInt8} {i : Nat} (hr : readable s = true) (hi : i ≤ s.length) : Out s (value (St s i)) (Im.word s i) := by
 unfold value Im.word
 simp only
 rw [next_byte]
 by_cases hq : byteAt s i = 34 ∨ byteAt s i = 39
 ·rw [if_pos hq, if_pos (show byteAt s i = 39 ∨ byteAt s i = 34 from hq.symm)]
  have hlt : i < s.length := by
   by_cases h : i < s.length
   ·exact h
   rw [byteAt_end h] at hq; omega
  have hM : Im.string s i = Im.strGo s (byteAt s i) (s.length + 1) [] (i + 1) := by
   rw [Im.string]
   by_cases h : s.length < i + 2
   ·rw [if_pos h, strGo_end om]
   rw [if_neg h]
  have hQ : Sp.quoted (St s i) = quotedGo (byteAt s i) (s.length + 2) [] (St s (i + 1)) := by
   unfold Sp.quoted
   rw [next_byte]; rfl
  rw [hM, hQ]
  rcases quoted_str hr hq s.length (s.length + 2) (s.length + 1) [] (i + 1) om om om om with h | h | h
  ·exact .inl h
  ·exact .inr (.inl ⟨h.1, h.2.1, h.2.2.1, h.2.2.2.1, .inl h.2.2.2.2⟩)
  exact .inr (.inr h)
 rw [if_neg hq, if_neg (show ¬ (byteAt s i = 39 ∨ byteAt s i = 34) from fun h => hq h.symm)]
 have hle := nameFollows_le (St s i) (show i ≤ s.length + 1 by omega)
 have key := nf_key (s := s) (i := i)
 generalize hN : nameFollows (St s i) = N at key hle
 obtain ⟨is, r1⟩ := N
 simp only at key hle ⊢
 rcases key with hu | rfl
 ·left
  have h2 : (if is = false ∧ (nameByte (byteAt s i) = true ∨ 128 ≤ byteAt s i) then r1.unsure else r1).uns = true := by
   split
   ·rfl
   exact hu
  have hok : Ok (if is = false ∧ (nameByte (byteAt s i) = true ∨ 128 ≤ byteAt s i) then r1.unsure else r1) := by
   split
   ·exact hle.ok
   exact hle.ok
  exact (name_le _ hok).1.uns h2
 by_cases hc : is = false ∧ (nameByte (byteAt s i) = true ∨ 128 ≤ byteAt s i)
 ·rw [if_pos hc]
  left
  exact (name_le (St s i).unsure (show i ≤ s.length + 1 by omega)).1.uns rfl
 rw [if_neg hc]
 exact name_out hr hi
def Dead (s : List UInt8) (r : Rd) : Prop := r.uns = true ∨ r.s = s ∧ r.ps = true ∧ r.uns = false ∧ (r.bad = true ∨ r = St s r.pos ∧ Stuck s r.pos)
theorem Dead.step {s : List UInt8} {r r' : Rd} (h : Dead s r) (hle : Le r r') (hst : ∀ i, r = St s i → Stuck s i → Dead s r') : Dead s r' := by
 rcases h with h | ⟨h1, h2, h3, h4⟩
 ·exact .inl (hle.uns h)
 rcases h4 with h4 | h4
 ·cases hu : r'.uns with
  | true => exact .inl hu
  | false => exact .inr ⟨hle.s.trans h1, hle.ps.trans h2, hu, .inl (hle.bad h4)⟩
 exact hst _ h4.1 h4.2
theorem Dead.spaces {s : List UInt8} {r : Rd} (h : Dead s r) (hok : Ok r) : Dead s (spaces r).2 :=
 h.step (spaces_le r hok) fun i e hs => by
  subst e
  rw [spaces_stuck hs]
  exact .inr ⟨rfl, rfl, rfl, .inr ⟨rfl, hs⟩⟩
theorem Dead.of_stuck {s : List UInt8} {i : Nat} (h : Stuck s i) : Dead s (St s i) := .inr ⟨rfl, rfl, rfl, .inr ⟨rfl, h⟩⟩
theorem Dead.unsure {s : List UInt8} {r : Rd} (h : r.uns = true) : Dead s r := .inl h
theorem Dead.orUns {s : List UInt8} {r : Rd} (h : Dead s r) (hok : Ok r) (u : Bool) : Dead s (r.orUns u) :=
 h.step (le_orU hok u) fun i e hs => by
  subst e
  cases u with
  | true => exact .inl rfl
  | false => exact Dead.of_stuck hs
theorem Dead.orBad {s : List UInt8} {r : Rd} (h : Dead s r) (hok : Ok r) (u : Bool) : Dead s (r.orBad u) :=
 h.step (le_orB hok u) fun i e hs => by
  subst e
  cases u with
  | true => exact .inr ⟨rfl, rfl, rfl, .inl rfl⟩
  | false => exact Dead.of_stuck hs
theorem Dead.refuse {s : List UInt8} {r : Rd} (h : Dead s r) : Dead s r.refuse := by
 rcases h with h | ⟨h1, h2, h3, h4⟩
 ·exact .inl h
 exact .inr ⟨h1, h2, h3, .inl rfl⟩
theorem Out.cases {s : List UInt8} {R : List UInt8 × Rd} {M : Option (List UInt8 × Nat)} (h : Out s R M) : (R.2.uns = true ∨ M = none) ∧ Dead s R.2 ∨ ∃ v j, M = some (v, j) ∧ R = (v, St s j) ∧ j ≤ s.length := by
 rcases h with h | h | h
 ·exact .inl ⟨.inl h, .inl h⟩
 ·exact .inl ⟨.inr h.1, .inr h.2⟩
 exact .inr h
theorem taken_stuck {s : List UInt8} {i : Nat} (h : Stuck s i) (c : UInt8) (t : List UInt8) (hc : c ≠ 92) : taken (St s i) (c :: t) = (false, St s i) := by
 have e : ¬ here (St s i) (c :: t) = true := by
  intro hh
  unfold here St at hh
  simp only [Bool.and_eq_true, decide_eq_true_eq] at hh
  have hlt := h.1
  have h1 := hh.2
  rw [List.drop_eq_getElem_cons hlt, List.length_cons, List.take_succ_cons] at h1
  injection h1 with h2 h3
  have h92 := h.2.1
  simp only [byteAt, List.getD_eq_getElem?_getD, List.getElem?_eq_getElem hlt, Option.getD_some] at h92
  rw [h2] at h92
  exact hc (UInt8.toNat_inj.1 h92)
 rw [taken, if_neg e]
theorem Dead.taken {s : List UInt8} {r : Rd} (h : Dead s r) (hok : Ok r) (c : UInt8) (t : List UInt8) (hc : c ≠ 92) : Dead s (taken r (c :: t)).2 :=
 h.step (taken_le r _ hok) fun i e hs => by
  subst e
  rw [taken_stuck hs c t hc]
  exact Dead.of_stuck hs
theorem taken1 {s : List UInt8} {i : Nat} (c : UInt8) : taken (St s i) [c] = if i < s.length ∧ byteAt s i = c.toNat then (true, St s (i + 1)) else (false, St s i) := by
 have e : here (St s i) [c] = true ↔ i < s.length ∧ byteAt s i = c.toNat := by
  unfold here St
  simp only [Bool.and_eq_true, decide_eq_true_eq, List.length_cons, List.length_nil]
  constructor
  ·rintro ⟨h1, h2⟩
   have hlt : i < s.length := by omega
   refine ⟨hlt, ?_⟩
   rw [List.drop_eq_getElem_cons hlt] at h2
   simp only [List.take_succ_cons, List.take_zero, List.cons.injEq, and_true] at h2
   simp [byteAt, List.getD_eq_getElem?_getD, List.getElem?_eq_getElem hlt, h2]
  rintro ⟨hlt, h2⟩
  refine ⟨om, ?_⟩
  rw [List.drop_eq_getElem_cons hlt]
  simp only [byteAt, List.getD_eq_getElem?_getD, List.getElem?_eq_getElem hlt, Option.getD_some] at h2
  have := UInt8.toNat_inj.1 h2
  simp [this]
 rw [taken]
 by_cases h : here (St s i) [c] = true
 ·rw [if_pos h, if_pos (e.1 h)]; rfl
 rw [if_neg h, if_neg (fun hh => h (e.2 hh))]
theorem dig_min (n d : Nat) : min (10 * min n 100000 + d) 100000 = min (10 * n + d) 100000 := by omega
theorem digitsGo_im (s : List UInt8) : ∀ (k i n : Nat) (is : Bool), i ≤ s.length → digitsGo k (min n 100000) is (St s i) = (min (((s.drop i).take (Im.digEnd s k i - i)).foldl (fun n c => 10 * n + (c.toNat - 48)) n) 100000, is || decide (i < Im.digEnd s k i), St s (Im.digEnd s k i))
 | 0, i, n, is, hi => by rw [digitsGo, Im.digEnd, Nat.sub_self]; simp
 | k + 1, i, n, is, hi => by
  rw [digitsGo, Im.digEnd, next_byte]
  by_cases h : i < s.length ∧ 48 ≤ byteAt s i ∧ byteAt s i ≤ 57
  ·rw [if_pos h, if_pos h.2, dig_min]
   show digitsGo k (min (10 * n + (byteAt s i - 48)) 100000) true (St s (i + 1)) = _
   have hle := Im.digEnd_le s k (i + 1)
   rw [digitsGo_im s k (i + 1) _ true om]
   have hlt := h.1
   have e1 : Im.digEnd s k (i + 1) - i = (Im.digEnd s k (i + 1) - (i + 1)) + 1 := by omega
   have e2 : s[i].toNat = byteAt s i := by simp [byteAt, hlt]
   have : i < Im.digEnd s k (i + 1) := by omega
   rw [e1, List.drop_eq_getElem_cons hlt, List.take_succ_cons, List.foldl_cons, e2]
   simp [this]
  rw [if_neg h, if_neg (fun hh => h ⟨by by_cases hl : i < s.length; exact hl; rw [byteAt_end hl] at hh; omega, hh⟩), Nat.sub_self]
  simp
theorem digEnd_fuel (s : List UInt8) : ∀ (k1 k2 i : Nat), s.length ≤ i + k1 → s.length ≤ i + k2 → Im.digEnd s k1 i = Im.digEnd s k2 i
 | 0, 0, i, _, _ => rfl
 | 0, k2 + 1, i, h1, _ => by rw [Im.digEnd, Im.digEnd, if_neg om]
 | k1 + 1, 0, i, _, h2 => by rw [Im.digEnd, Im.digEnd, if_neg om]
 | k1 + 1, k2 + 1, i, h1, h2 => by
  rw [Im.digEnd, Im.digEnd]
  split
  ·exact digEnd_fuel s k1 k2 (i + 1) om om
  rfl
theorem digEnd_first {s : List UInt8} {i : Nat} (hi : i ≤ s.length) : i < Im.digEnd s s.length i ↔ Im.isDig (byteAt s i) = true := by
 have hD : Im.isDig (byteAt s i) = true ↔ i < s.length ∧ 48 ≤ byteAt s i ∧ byteAt s i ≤ 57 := by
  unfold Im.isDig
  simp only [Bool.and_eq_true, decide_eq_true_eq]
  constructor
  ·intro h
   refine ⟨?_, h⟩
   by_cases hl : i < s.length
   ·exact hl
   rw [byteAt_end hl] at h; omega
  exact fun h => h.2
 rw [hD]
 cases hL : s.length with
 | zero => rw [Im.digEnd]; omega
 | succ n =>
  rw [Im.digEnd, hL]
  by_cases h : i < n + 1 ∧ 48 ≤ byteAt s i ∧ byteAt s i ≤ 57
  ·rw [if_pos h]
   have := (Im.digEnd_le s n (i + 1)).1
   exact ⟨fun _ => h, fun _ => by omega⟩
  rw [if_neg h]
  exact ⟨fun hh => by omega, fun hh => absurd hh h⟩
theorem digits_im {s : List UInt8} {i : Nat} (hi : i ≤ s.length) : (digits (St s i)).2.2.uns = true ∨ ∃ n j, digits (St s i) = (n, decide (i < j), St s j) ∧ i ≤ j ∧ j ≤ s.length ∧ (i < j → Im.integer s i = some (n, j) ∧ Im.isDig (byteAt s i) = true) ∧ (¬ i < j → j = i ∧ Im.integer s i = none ∧ Im.isDig (byteAt s i) = false) := by
 have hg := digitsGo_im s (s.length + 1) i 0 false hi
 rw [digEnd_fuel s (s.length + 1) s.length i om om] at hg
 have hle := Im.digEnd_le s s.length i
 have hfi := digEnd_first hi
 have hI : Im.integer s i = if Im.digEnd s s.length i = i then none else if Im.digNum ((s.drop i).take (Im.digEnd s s.length i - i)) < 9223372036854775808 then some (Im.digNum ((s.drop i).take (Im.digEnd s s.length i - i)), Im.digEnd s s.length i) else none := rfl
 generalize Im.digEnd s s.length i = j at hg hle hI hfi
 have hN : ((s.drop i).take (j - i)).foldl (fun n c => 10 * n + (c.toNat - 48)) 0 = Im.digNum ((s.drop i).take (j - i)) := rfl
 rw [hN, Nat.min_eq_left (show (0 : Nat) ≤ 100000 by omega)] at hg
 generalize Im.digNum ((s.drop i).take (j - i)) = n at hg hI
 have hd : digits (St s i) = (min n 100000, decide (i < j), (St s j).orUns (min n 100000 == 100000)) := by
  unfold digits
  rw [show (St s i).s.length + 1 = s.length + 1 from rfl, hg]; simp
 rw [hd]
 by_cases hc : n < 100000
 ·right
  refine ⟨n, j, ?_, hle.1, hle.2 hi, fun h => ⟨?_, hfi.1 h⟩, fun h => ⟨om, ?_, ?_⟩⟩
  ·rw [Nat.min_eq_left om]
   have : (n == 100000) = false := by rw [beq_eq_false_iff_ne]; omega
   rw [this]; rfl
  ·rw [hI, if_neg om, if_pos om]
  ·rw [hI, if_pos om]
  cases hq : Im.isDig (byteAt s i) with
  | false => rfl
  | true => exact absurd (hfi.2 hq) h
 left
 rw [Nat.min_eq_right om]; rfl
def WordAt (s : List UInt8) (i : Nat) (t : List UInt8) : Prop := i + t.length ≤ s.length ∧ lower ((s.drop i).take t.length) = t ∧ (i + t.length < s.length → ¬ (Im.nameChar (byteAt s (i + t.length)) = true ∨ byteAt s (i + t.length) = 92))
theorem word_at {s : List UInt8} {i : Nat} {t : List UInt8} : (WordAt s i t ∧ word (St s i) t = (true, St s (i + t.length))) ∨ (¬ WordAt s i t ∧ word (St s i) t = (false, St s i)) := by
 unfold word
 simp only
 by_cases h : s.length < i + t.length ∨ ¬ lower ((s.drop i).take t.length) = t ∨ i + t.length < s.length ∧ (nameByte (byteAt s (i + t.length)) = true ∨ byteAt s (i + t.length) = 92)
 ·right
  refine ⟨?_, if_pos h⟩
  rintro ⟨h1, h2, h3⟩
  rcases h with h | h | h
  ·omega
  ·exact h h2
  rw [nameByte_eq] at h; exact h3 h.1 h.2
 left
 refine ⟨⟨om, ?_, fun h1 h2 => ?_⟩, if_neg h⟩
 ·by_cases hh : lower ((s.drop i).take t.length) = t
  ·exact hh
  exact absurd (.inr (.inl hh)) h
 rw [← nameByte_eq] at h2; exact h (.inr (.inr ⟨h1, h2⟩))
theorem word_stuck {s : List UInt8} {i : Nat} (h : Stuck s i) (c : UInt8) (t : List UInt8) (hc : c ≠ 92) : word (St s i) (c :: t) = (false, St s i) := by
 rcases word_at (s := s) (i := i) (t := c :: t) with ⟨⟨-, h2, -⟩, -⟩ | ⟨-, h2⟩
 ·exfalso
  rw [List.drop_eq_getElem_cons h.1, List.length_cons, List.take_succ_cons, lower, List.map_cons] at h2
  injection h2 with h3 h4
  have h92 := h.2.1
  have e : s[i]'h.1 = 92 := by
   simp only [byteAt, List.getD_eq_getElem?_getD, List.getElem?_eq_getElem h.1, Option.getD_some] at h92
   exact UInt8.toNat_inj.1 h92
  rw [e] at h3
  exact hc (h3.symm.trans dC)
 exact h2
theorem nameGo_run {s : List UInt8} : ∀ (m i k k' : Nat) (out : List UInt8), i + m ≤ s.length → (∀ a, a < m → Im.nameChar (byteAt s (i + a)) = true) → s.length < i + k → s.length < i + m + k' → Im.nameGo s k out i = Im.nameGo s k' (out ++ (s.drop i).take m) (i + m)
 | 0, i, k, k', out, hm, hc, h1, h2 => by
  rw [List.take_zero, List.append_nil]
  exact nameGo_fuel s s.length _ _ _ _ om om om
 | m + 1, i, k, k', out, hm, hc, h1, h2 => by
  have h0 := hc 0 om
  rw [Nat.add_zero] at h0
  rw [nameGo_step (k' := s.length + 1) om h0 h1 om]
  rw [nameGo_run m (i + 1) (s.length + 1) k' _ om (fun a ha => by have := hc (a + 1) om; rwa [show i + 1 + a = i + (a + 1) from by omega]) om om]
  rw [List.append_assoc]
  have := take_one_more (s := s) (i := i) (j := i + (m + 1)) om om
  rw [show i + (m + 1) - (i + 1) = m from by omega, show i + (m + 1) - i = m + 1 from by omega] at this
  rw [this, show i + 1 + m = i + (m + 1) from by omega]
theorem name_many (s : List UInt8) (i : Nat) (hi : i ≤ s.length) : ∀ M, ∃ m, m ≤ M ∧ i + m ≤ s.length ∧ (∀ a, a < m → Im.nameChar (byteAt s (i + a)) = true) ∧ (m = M ∨ ¬ (i + m < s.length ∧ Im.nameChar (byteAt s (i + m)) = true))
 | 0 => ⟨0, om, om, fun a ha => by omega, .inl rfl⟩
 | M + 1 => by
  obtain ⟨m, h1, h2, h3, h4⟩ := name_many s i hi M
  by_cases h : i + m < s.length ∧ Im.nameChar (byteAt s (i + m)) = true
  ·rcases h4 with h4 | h4
   ·subst h4
    refine ⟨m + 1, om, om, fun a ha => ?_, .inl rfl⟩
    by_cases ha2 : a = m
    ·rw [ha2]; exact h.2
    exact h3 a om
   exact absurd h h4
  exact ⟨m, om, h2, h3, .inr h⟩
theorem lowerB_name (c : UInt8) (h : 97 ≤ (lowerB c).toNat ∧ (lowerB c).toNat ≤ 122) : Im.nameChar c.toNat = true := by
 unfold lowerB at h
 unfold Im.nameChar
 split at h
 ·rename_i h1; simp; omega
 simp; omega
theorem lower_byte {s : List UInt8} {i n a : Nat} {t : List UInt8} (h : i + n ≤ s.length) (ht : lower ((s.drop i).take n) = t) (ha : a < n) : ∃ c, t[a]? = some (lowerB c) ∧ byteAt s (i + a) = c.toNat := by
 refine ⟨s[i + a]'om, ?_, ?_⟩
 ·rw [← ht, lower, List.getElem?_map, List.getElem?_take_of_lt ha, List.getElem?_drop, List.getElem?_eq_getElem om]; rfl
 simp only [byteAt, List.getD_eq_getElem?_getD, List.getElem?_eq_getElem (show i + a < s.length by omega), Option.getD_some]
theorem word_name {s : List UInt8} {i : Nat} {t : List UInt8} (ht : t ≠ []) (hl : ∀ c ∈ t, 97 ≤ c.toNat ∧ c.toNat ≤ 122) (h : WordAt s i t) : Im.name s i = some ((s.drop i).take t.length, i + t.length) := by
 obtain ⟨h1, h2, h3⟩ := h
 have hlen : 1 ≤ t.length := by cases t with | nil => exact absurd rfl ht | cons => simp
 have hc : ∀ a, a < t.length → Im.nameChar (byteAt s (i + a)) = true := fun a ha => by
  obtain ⟨c, e1, e2⟩ := lower_byte h1 h2 ha
  rw [e2]
  exact lowerB_name c (hl _ (List.mem_of_getElem? e1))
 rw [name_im om (.inl (by have := hc 0 hlen; rwa [Nat.add_zero] at this)), nameGo_run t.length i (s.length + 1) (s.length + 1) [] h1 hc om om, Im.nameGo, List.nil_append]
 by_cases he : i + t.length < s.length
 ·have := h3 he
  rw [if_pos he, if_neg (fun hh => this (.inl hh)), if_neg (fun hh => this (.inr hh))]
 rw [if_neg he]
theorem name_word {s : List UInt8} {i : Nat} {v t : List UInt8} {j : Nat} (hi : i ≤ s.length) (h : Im.name s i = some (v, j)) (hv : lower v = t) (h4 : t.length ≤ 4) (hb : anyBack s i = false) : WordAt s i t := by
 have hlv : v.length = t.length := by rw [← hv, lower_length]
 obtain ⟨m, h1, h2, h3, h5⟩ := name_many s i hi 5
 have hgo : Im.nameGo s (s.length + 1) [] i = some (v, j) := by
  rw [Im.name] at h
  split at h
  ·cases h
  rename_i out j' hq
  split at h
  ·cases h
  rw [hq]; exact h
 rw [nameGo_run m i (s.length + 1) (s.length + 1) [] h2 h3 om om, List.nil_append] at hgo
 have hlen := nameGo_len s _ _ _ v j hgo
 have hm : ((s.drop i).take m).length = m := by rw [List.length_take, List.length_drop]; omega
 rw [hm] at hlen
 have hm4 : m ≤ 4 := by omega
 have hne := h5.resolve_left om
 have fin : v = (s.drop i).take m → (i + m < s.length → ¬ byteAt s (i + m) = 92) → WordAt s i t := fun e hb2 => by
  have : m = t.length := by rw [← hlv, e, hm]
  subst this
  rw [e] at hv
  exact ⟨h2, hv, fun hl hh => hh.elim (fun hh => hne ⟨hl, hh⟩) (hb2 hl)⟩
 rw [Im.nameGo] at hgo
 by_cases hl : i + m < s.length
 ·rw [if_pos hl, if_neg (fun hh => hne ⟨hl, hh⟩)] at hgo
  by_cases h92 : byteAt s (i + m) = 92
  ·rw [if_pos h92] at hgo
   exfalso
   by_cases hm3 : m ≤ 3
   ·unfold anyBack at hb
    rw [List.any_eq_false] at hb
    have hmem : s[i + m] ∈ (s.drop i).take 4 := by
     refine List.mem_of_getElem? (i := m) ?_
     rw [List.getElem?_take_of_lt om, List.getElem?_drop, List.getElem?_eq_getElem hl]
    have := hb _ hmem
    apply this
    simp only [byteAt, List.getD_eq_getElem?_getD, List.getElem?_eq_getElem hl, Option.getD_some] at h92
    rw [h92]; rfl
   cases hq : Im.escape s (i + m) with
   | none => rw [hq] at hgo; cases hgo
   | some p =>
    obtain ⟨u, j'⟩ := p
    rw [hq] at hgo
    have e1 := nameGo_len s _ _ _ v j hgo
    have e2 := escape_ne hq
    rw [List.length_append, hm] at e1
    omega
  rw [if_neg h92] at hgo
  simp only [Option.some.injEq, Prod.mk.injEq] at hgo
  exact fin hgo.1.symm (fun _ => h92)
 rw [if_neg hl] at hgo
 simp only [Option.some.injEq, Prod.mk.injEq] at hgo
 exact fin hgo.1.symm (fun h => absurd h hl)
def cT2 (sg n : Int) (r : Rd) : Int × Int × Rd :=
 let start := r.pos
 let (_, r) := spaces r
 let c := next r
 if ¬ c = 43 ∧ ¬ c = 45 then
  (sg * n, 0, r.orUns ((r.pos == start && (nameByte c || c == 92)) || c == 111 || c == 79 || (decide (48 ≤ c) && decide (c ≤ 57))))
 else
  let r := (r.adv 1)
  let (_, r) := spaces r
  let (k, was, r) := digits r
  let r := r.orBad (!was)
  (sg * n, if c = 45 then -(k : Int) else k, r)
def cT1 (sg : Int) (r : Rd) : Int × Int × Rd :=
 let (n, is, r) := digits r
 let c := next r
 if ¬ c = 110 ∧ ¬ c = 78 then
  let r := (r.orBad (!is)).orUns (anyBack r.s r.pos)
  let r := r.orUns (here r [111, 102])
  (0, sg * n, r)
 else
  let n : Nat := if is then n else 1
  cT2 sg n (r.adv 1)
def cT0 (r : Rd) : Int × Int × Rd :=
 let (m, r) := taken r [45]
 let (_, r) := if m then (false, r) else taken r [43]
 let sign : Int := if m then -1 else 1
 cT1 sign r
def cTe (r : Rd) : Int × Int × Rd :=
 let (e, r) := word r [101, 118, 101, 110]
 if e then (2, 0, r) else cT0 r
theorem count_eq (r : Rd) : count r = if (word r [111, 100, 100]).1 then (2, 1, (word r [111, 100, 100]).2) else cTe (word r [111, 100, 100]).2 := by
 unfold count
 generalize word r [111, 100, 100] = A
 obtain ⟨a, r1⟩ := A
 simp only
 split
 ·rfl
 unfold cTe
 generalize word r1 [101, 118, 101, 110] = B
 obtain ⟨b, r2⟩ := B
 simp only
 split
 ·rfl
 unfold cT0
 generalize taken r2 [45] = C
 obtain ⟨m, r3⟩ := C
 simp only
 generalize (if m = true then (false, r3) else taken r3 [43]) = D
 obtain ⟨m2, r4⟩ := D
 simp only [cT1]
 generalize digits r4 = E
 obtain ⟨n, is, r5⟩ := E
 simp only [cT2]
theorem cTe_eq (r : Rd) : cTe r = if (word r [101, 118, 101, 110]).1 then (2, 0, (word r [101, 118, 101, 110]).2) else cT0 (word r [101, 118, 101, 110]).2 := rfl
theorem cT0_yes {r r' : Rd} (h : taken r [45] = (true, r')) : cT0 r = cT1 (-1) r' := by
 unfold cT0; rw [h]; rfl
theorem cT0_no {r r' : Rd} (h : taken r [45] = (false, r')) : cT0 r = cT1 1 (taken r' [43]).2 := by
 unfold cT0; rw [h]; rfl
theorem orUns_or (r : Rd) (u : Bool) : (r.orUns u).uns = true ∨ r.orUns u = r := by
 obtain ⟨s, p, b, v, ps⟩ := r
 cases u
 ·right; simp [Rd.orUns]
 left; simp [Rd.orUns]
theorem digits_no {s : List UInt8} {i : Nat} (h : ¬ (48 ≤ byteAt s i ∧ byteAt s i ≤ 57)) : digits (St s i) = (0, false, St s i) := by
 have e : digitsGo (s.length + 1) 0 false (St s i) = (0, false, St s i) := by
  rw [digitsGo, next_byte, if_neg h]
 unfold digits
 rw [show (St s i).s.length + 1 = s.length + 1 from rfl, e]
 rfl
theorem digits_stuck {s : List UInt8} {i : Nat} (h : Stuck s i) : digits (St s i) = (0, false, St s i) := digits_no (by rw [h.2.1]; omega)
theorem count_dead {s : List UInt8} {r : Rd} (h : Dead s r) (hok : Ok r) : Dead s (count r).2.2 :=
 h.step (count_le r hok) fun i e hs => by
  subst e
  have hi : Ok (St s i) := hok
  rw [count_eq, word_stuck hs 111 _ dC]
  simp only [Bool.false_eq_true, if_false]
  rw [cTe_eq, word_stuck hs 101 _ dC]
  simp only [Bool.false_eq_true, if_false]
  rw [cT0_no (taken_stuck hs 45 _ dC), taken_stuck hs 43 _ dC]
  unfold cT1
  rw [digits_stuck hs]
  simp only
  rw [next_byte, hs.2.1, if_pos om]
  have d0 := Dead.of_stuck hs
  have d1 : Dead s ((St s i).orBad (!false)) := d0.orBad hi _
  have l1 := le_orB hi (!false)
  have d2 := d1.orUns l1.ok (anyBack ((St s i).orBad (!false)).s ((St s i).orBad (!false)).pos)
  have l2 := le_orU l1.ok (anyBack ((St s i).orBad (!false)).s ((St s i).orBad (!false)).pos)
  exact d2.orUns l2.ok _
theorem cT2_le (sg n : Int) {r : Rd} (h : Ok r) : Le r (cT2 sg n r).2.2 := by
 have l1 := spaces_le r h
 unfold cT2
 generalize spaces r = S at l1
 obtain ⟨b0, r1⟩ := S
 simp only at l1 ⊢
 split
 ·exact l1.orU _
 rename_i hc
 have hp : r1.pos < r1.s.length := next_pos om
 have l2 := l1.trans (le_adv (r := r1) (k := 1) om)
 have l3 := l2.trans (spaces_le _ l2.ok)
 generalize spaces (r1.adv 1) = S2 at l3
 obtain ⟨b2, r2⟩ := S2
 simp only at l3 ⊢
 have l4 := l3.trans (digits_le r2 l3.ok).1
 generalize digits r2 = D at l4
 obtain ⟨k, was, r3⟩ := D
 simp only at l4 ⊢
 exact l4.orB _
def COut (s : List UInt8) (R : Int × Int × Rd) (M : Option (Int × Int × Nat)) : Prop :=
 ((R.2.2.uns = true ∨ M = none) ∧ Dead s R.2.2) ∨ (M = none ∧ R.2.2 = St s s.length) ∨ ∃ a b j, M = some (a, b, j) ∧ R.2.2 = St s j ∧ j ≤ s.length
theorem COut.uns {s : List UInt8} {R : Int × Int × Rd} {M : Option (Int × Int × Nat)} (h : R.2.2.uns = true) : COut s R M := .inl ⟨.inl h, .inl h⟩
theorem COut.bad {s : List UInt8} {sg n : Int} {i : Nat} : COut s (sg, n, (St s i).orBad true) none := .inl ⟨.inr rfl, .inr ⟨rfl, rfl, rfl, .inl rfl⟩⟩
theorem cT2_tail {s : List UInt8} {i : Nat} (hi : i ≤ s.length) (x : Int) (f : Nat → Int) (a : Int) (g : Nat → Int) :
 COut s (let (_, r) := spaces (St s i); let (k, was, r) := digits r; (x, f k, r.orBad (!was))) (match Im.integer s (Im.ws s i) with | none => none | some (b, j) => some (a, g b, j)) := by
 have l1 := spaces_le (St s i) (show i ≤ s.length + 1 by omega)
 rcases spaces_ws hi with hu | ⟨he, -⟩
 ·generalize spaces (St s i) = S at l1 hu
  obtain ⟨b0, r1⟩ := S
  simp only at l1 hu ⊢
  have l2 := (digits_le r1 l1.ok).1
  generalize digits r1 = D at l2
  obtain ⟨k, was, r2⟩ := D
  exact COut.uns ((le_orB l2.ok _).uns (l2.uns hu))
 have hS : spaces (St s i) = ((spaces (St s i)).1, St s (Im.ws s i)) := by rw [← he]
 rw [hS]
 have hk := (Im.ws_le s i).2 hi
 generalize Im.ws s i = k at hk
 simp only
 have l2 := (digits_le (St s k) (show k ≤ s.length + 1 by omega)).1
 rcases digits_im hk with hu | ⟨n, j, e, h1, h2, h3, h4⟩
 ·generalize digits (St s k) = D at l2 hu
  obtain ⟨k, was, r2⟩ := D
  exact COut.uns ((le_orB l2.ok _).uns hu)
 rw [e]
 by_cases hj : k < j
 ·rw [(h3 hj).1, decide_eq_true hj]
  exact .inr (.inr ⟨_, _, j, rfl, rfl, h2⟩)
 rw [(h4 hj).2.1, decide_eq_false hj]
 exact COut.bad
theorem cT2_out {s : List UInt8} {i : Nat} (hi : i ≤ s.length) (sg n a : Int) : COut s (cT2 sg n (St s i)) (Im.readN s a i) := by
 have hle := cT2_le sg n (show Ok (St s i) from (show i ≤ s.length + 1 by omega))
 have l1 := spaces_le (St s i) (show i ≤ s.length + 1 by omega)
 rcases spaces_ws hi with hu | ⟨he, -⟩
 ·refine COut.uns ?_
  unfold cT2
  generalize spaces (St s i) = S at l1 hu
  obtain ⟨b0, r1⟩ := S
  simp only at l1 hu ⊢
  split
  ·exact (le_orU l1.ok _).uns hu
  rename_i hc
  have hp : r1.pos < r1.s.length := next_pos om
  have l2 := le_adv (r := r1) (k := 1) om
  have l3 := l2.trans (spaces_le _ l2.ok)
  generalize spaces (r1.adv 1) = S2 at l3
  obtain ⟨b2, r2⟩ := S2
  simp only at l3 ⊢
  have l4 := l3.trans (digits_le r2 l3.ok).1
  generalize digits r2 = D at l4
  obtain ⟨k, was, r3⟩ := D
  simp only at l4 ⊢
  exact (l4.orB _).uns hu
 have hS : spaces (St s i) = ((spaces (St s i)).1, St s (Im.ws s i)) := by rw [← he]
 have eT : cT2 sg n (St s i) = (if ¬ next (St s (Im.ws s i)) = 43 ∧ ¬ next (St s (Im.ws s i)) = 45 then
  (sg * n, 0, (St s (Im.ws s i)).orUns (((St s (Im.ws s i)).pos == (St s i).pos && (nameByte (next (St s (Im.ws s i))) || next (St s (Im.ws s i)) == 92)) || next (St s (Im.ws s i)) == 111 || next (St s (Im.ws s i)) == 79 || (decide (48 ≤ next (St s (Im.ws s i))) && decide (next (St s (Im.ws s i)) ≤ 57))))
  else
   (let (_, r) := spaces (St s (Im.ws s i + 1)); let (k, was, r) := digits r; (sg * n, (if next (St s (Im.ws s i)) = 45 then -(k : Int) else k), r.orBad (!was)))) := by
  unfold cT2; rw [hS]; rfl
 simp only [Im.readN]
 have hk := (Im.ws_le s i).2 hi
 generalize Im.ws s i = k at hk eT
 rw [next_byte] at eT
 by_cases hend : s.length ≤ k
 ·rw [if_pos hend, eT, byteAt_end om, if_pos om]
  have : k = s.length := by omega
  subst this
  generalize ((St s s.length).pos == (St s i).pos && (nameByte 0 || (0 : Nat) == 92) || (0 : Nat) == 111 || (0 : Nat) == 79 || decide (48 ≤ 0) && decide (0 ≤ 57)) = u
  rcases orUns_or (St s s.length) u with h | h
  ·exact COut.uns h
  exact .inr (.inl ⟨rfl, h⟩)
 rw [if_neg hend]
 by_cases h43 : byteAt s k = 43
 ·rw [if_pos h43, eT, if_neg om]
  exact cT2_tail (s := s) (i := k + 1) om (sg * n) (fun k1 => if byteAt s k = 45 then -(k1 : Int) else k1) a (fun b => b)
 rw [if_neg h43]
 by_cases h45 : byteAt s k = 45
 ·rw [if_pos h45, eT, if_neg om]
  exact cT2_tail (s := s) (i := k + 1) om (sg * n) (fun k1 => if byteAt s k = 45 then -(k1 : Int) else k1) a (fun b => -(b : Int))
 rw [if_neg h45, eT, if_pos ⟨h43, h45⟩]
 generalize ((St s k).pos == (St s i).pos && (nameByte (byteAt s k) || byteAt s k == 92) || byteAt s k == 111 || byteAt s k == 79 || decide (48 ≤ byteAt s k) && decide (byteAt s k ≤ 57)) = u
 rcases orUns_or (St s k) u with h | h
 ·exact COut.uns h
 exact .inr (.inr ⟨_, _, k, rfl, h, hk⟩)
theorem orUns2 (r : Rd) (u v : Bool) : ((r.orUns u).orUns v).uns = true ∨ (r.orUns u).orUns v = r := by
 rcases orUns_or r u with h | h
 ·left; show ((r.orUns u).uns || v) = true; rw [h]; rfl
 rw [h]; exact orUns_or r v
theorem cT1_out {s : List UInt8} {i : Nat} (hi : i ≤ s.length) (sg : Int) (neg : Bool) : COut s (cT1 sg (St s i)) (Im.readA s neg i) := by
 have l1 := (digits_le (St s i) (show i ≤ s.length + 1 by omega)).1
 unfold cT1 Im.readA
 rcases digits_im hi with hu | ⟨n, j, e, h1, h2, h3, h4⟩
 ·refine COut.uns ?_
  generalize digits (St s i) = D at l1 hu
  obtain ⟨n, is, r1⟩ := D
  simp only at l1 hu ⊢
  split
  ·exact (((Le.refl l1.ok).orB _).orU _ |>.orU _).uns hu
  rename_i hc
  have hp : r1.pos < r1.s.length := next_pos om
  have l2 := le_adv (r := r1) (k := 1) om
  exact (l2.trans (cT2_le _ _ l2.ok)).uns hu
 rw [e]
 simp only
 rw [next_byte]
 have hN : ∀ k, Im.isN (byteAt s k) = true ↔ ¬ (¬ byteAt s k = 110 ∧ ¬ byteAt s k = 78) := fun k => by
  unfold Im.isN; simp only [Bool.or_eq_true, beq_iff_eq]; omega
 by_cases hj : i < j
 ·obtain ⟨g1, g2⟩ := h3 hj
  rw [if_neg (show ¬ s.length ≤ i by omega), if_pos g2, g1]
  simp only
  by_cases hend : s.length ≤ j
  ·rw [if_pos hend, byteAt_end om, if_pos om]
   have : j = s.length := by omega
   subst this
   rw [decide_eq_true hj]
   rcases orUns2 (St s s.length) (anyBack ((St s s.length).orBad (!true)).s ((St s s.length).orBad (!true)).pos) (here (((St s s.length).orBad (!true)).orUns (anyBack ((St s s.length).orBad (!true)).s ((St s s.length).orBad (!true)).pos)) [111, 102]) with h | h
   ·exact COut.uns h
   exact .inr (.inl ⟨rfl, h⟩)
  rw [if_neg hend]
  by_cases hn : Im.isN (byteAt s j) = true
  ·rw [if_pos hn, if_neg ((hN j).1 hn)]
   exact cT2_out (s := s) (i := j + 1) om _ _ _
  have hn2 : ¬ byteAt s j = 110 ∧ ¬ byteAt s j = 78 := by
   by_cases hh : ¬ byteAt s j = 110 ∧ ¬ byteAt s j = 78
   ·exact hh
   exact absurd ((hN j).2 hh) hn
  rw [if_neg hn, if_pos hn2]
  rw [decide_eq_true hj]
  rcases orUns2 (St s j) (anyBack ((St s j).orBad (!true)).s ((St s j).orBad (!true)).pos) (here (((St s j).orBad (!true)).orUns (anyBack ((St s j).orBad (!true)).s ((St s j).orBad (!true)).pos)) [111, 102]) with h | h
  ·exact COut.uns h
  exact .inr (.inr ⟨_, _, j, rfl, h, h2⟩)
 obtain ⟨rfl, g1, g2⟩ := h4 hj
 rw [decide_eq_false hj]
 have hd : ¬ Im.isDig (byteAt s j) = true := by rw [g2]; simp
 by_cases hn : ¬ byteAt s j = 110 ∧ ¬ byteAt s j = 78
 ·rw [if_pos hn]
  have hM : (if s.length ≤ j then none else if Im.isDig (byteAt s j) = true then (match Im.integer s j with | none => none | some (a, j) => if s.length ≤ j then none else if Im.isN (byteAt s j) = true then Im.readN s (if neg then -(a : Int) else a) (j + 1) else some (0, (if neg then -(a : Int) else a), j)) else if Im.isN (byteAt s j) = true then Im.readN s (if neg then -1 else 1) (j + 1) else none) = (none : Option (Int × Int × Nat)) := by
   by_cases hl : s.length ≤ j
   ·rw [if_pos hl]
   rw [if_neg hl, if_neg hd, if_neg (fun hh => (hN j).1 hh hn)]
  refine .inl ⟨.inr hM, ?_⟩
  have d1 : Dead s ((St s j).orBad (!false)) := .inr ⟨rfl, rfl, rfl, .inl rfl⟩
  have o1 : Ok ((St s j).orBad (!false)) := show j ≤ s.length + 1 by omega
  exact (d1.orUns o1 _).orUns (le_orU o1 _).ok _
 rw [if_neg hn]
 have hlt : ¬ s.length ≤ j := fun hh => by rw [byteAt_end om] at hn; omega
 rw [if_neg hlt, if_neg hd, if_pos ((hN j).2 hn)]
 exact cT2_out (s := s) (i := j + 1) om _ _ _
theorem word_first {s : List UInt8} {i : Nat} {c : UInt8} {t : List UInt8} (h : WordAt s i (c :: t)) : ∃ x : UInt8, lowerB x = c ∧ byteAt s i = x.toNat := by
 obtain ⟨x, h1, h2⟩ := lower_byte (a := 0) h.1 h.2.1 (by simp)
 rw [Nat.add_zero] at h2
 simp only [List.getElem?_cons_zero, Option.some.injEq] at h1
 exact ⟨x, h1.symm, h2⟩
theorem lowerB_is {x c : UInt8} (h : lowerB x = c) : x = c ∨ (65 ≤ x.toNat ∧ x.toNat ≤ 90 ∧ x.toNat + 32 = c.toNat) := by
 unfold lowerB at h
 split at h
 ·right
  rename_i h1
  refine ⟨h1.1, h1.2, ?_⟩
  rw [← h]
  simp only [UInt8.toNat_ofNat']
  omega
 exact .inl h
theorem nth_name {s : List UInt8} {i : Nat} (h : byteAt s i = 111 ∨ byteAt s i = 79 ∨ byteAt s i = 101 ∨ byteAt s i = 69) : Im.nth s i = match Im.name s i with | none => none | some (v, j) => if lower v = [111, 100, 100] then some (2, 1, j) else if lower v = [101, 118, 101, 110] then some (2, 0, j) else none := by
 have hl : ¬ s.length ≤ i := fun hh => by rw [byteAt_end om] at h; omega
 unfold Im.nth
 rw [if_neg hl, if_neg om, if_neg om, if_neg (by unfold Im.isDig; simp; omega), if_neg (by unfold Im.isN; simp; omega), if_pos h]
 rfl
theorem count_out {s : List UInt8} {i : Nat} (hi : i ≤ s.length) : COut s (count (St s i)) (Im.nth s i) := by
 rw [count_eq]
 rcases word_at (s := s) (i := i) (t := [111, 100, 100]) with ⟨hw, e⟩ | ⟨hn1, e⟩
 ·rw [e]
  simp only [if_true]
  obtain ⟨x, h1, h2⟩ := word_first hw
  have h3 : byteAt s i = 111 ∨ byteAt s i = 79 := by
   rcases lowerB_is h1 with rfl | h
   ·exact .inl h2
   have : (111 : UInt8).toNat = 111 := rfl
   omega
  rw [nth_name om, word_name (by simp) dC hw]
  simp only
  rw [if_pos hw.2.1]
  exact .inr (.inr ⟨_, _, _, rfl, rfl, hw.1⟩)
 rw [e]
 simp only [Bool.false_eq_true, if_false]
 rw [cTe_eq]
 rcases word_at (s := s) (i := i) (t := [101, 118, 101, 110]) with ⟨hw, e⟩ | ⟨hn2, e⟩
 ·rw [e]
  simp only [if_true]
  obtain ⟨x, h1, h2⟩ := word_first hw
  have h3 : byteAt s i = 101 ∨ byteAt s i = 69 := by
   rcases lowerB_is h1 with rfl | h
   ·exact .inl h2
   have : (101 : UInt8).toNat = 101 := rfl
   omega
  rw [nth_name om, word_name (by simp) dC hw]
  simp only
  rw [if_neg (by rw [hw.2.1]; decide), if_pos hw.2.1]
  exact .inr (.inr ⟨_, _, _, rfl, rfl, hw.1⟩)
 rw [e]
 simp only [Bool.false_eq_true, if_false]
 have hlt : ∀ c, byteAt s i = c → c ≠ 0 → i < s.length := fun c h1 h2 => by
  by_cases h : i < s.length
  ·exact h
  rw [byteAt_end h] at h1; omega
 by_cases h45 : byteAt s i = 45
 ·have hl := hlt _ h45 om
  have ht : taken (St s i) [45] = (true, St s (i + 1)) := by rw [taken1, if_pos ⟨hl, h45⟩]
  rw [cT0_yes ht]
  have hM : Im.nth s i = Im.readA s true (i + 1) := by
   unfold Im.nth
   rw [if_neg om, if_pos h45]
  rw [hM]
  exact cT1_out om _ _
 have ht : taken (St s i) [45] = (false, St s i) := by rw [taken1, if_neg (fun hh => h45 hh.2)]
 rw [cT0_no ht]
 by_cases h43 : byteAt s i = 43
 ·have hl := hlt _ h43 om
  have ht : taken (St s i) [43] = (true, St s (i + 1)) := by rw [taken1, if_pos ⟨hl, h43⟩]
  rw [ht]
  have hM : Im.nth s i = Im.readA s false (i + 1) := by
   unfold Im.nth
   rw [if_neg om, if_neg h45, if_pos h43]
  rw [hM]
  exact cT1_out om _ _
 have ht : taken (St s i) [43] = (false, St s i) := by rw [taken1, if_neg (fun hh => h43 hh.2)]
 rw [ht]
 by_cases hA : Im.isDig (byteAt s i) = true ∨ Im.isN (byteAt s i) = true
 ·have hl : i < s.length := by
   by_cases h : i < s.length
   ·exact h
   rw [byteAt_end h] at hA; exact absurd hA dC
  have hM : Im.nth s i = Im.readA s false i := by
   unfold Im.nth
   by_cases hd : Im.isDig (byteAt s i) = true
   ·rw [if_neg om, if_neg h45, if_neg h43, if_pos hd]
   have hn := hA.resolve_left hd
   rw [if_neg om, if_neg h45, if_neg h43, if_neg hd, if_pos hn]
   unfold Im.readA
   rw [if_neg om, if_neg hd, if_pos hn]; rfl
  rw [hM]
  exact cT1_out hi _ _
 have hd : ¬ (48 ≤ byteAt s i ∧ byteAt s i ≤ 57) := fun hh => hA (.inl (by unfold Im.isDig; simp; exact hh))
 have hN : ¬ byteAt s i = 110 ∧ ¬ byteAt s i = 78 := by
  constructor <;> exact fun hh => hA (.inr (by unfold Im.isN; simp; omega))
 have hC : ∃ u, cT1 1 (St s i) = (0, 1 * ((0 : Nat) : Int), (((St s i).orBad true).orUns (anyBack s i)).orUns u) := by
  refine ⟨here (((St s i).orBad true).orUns (anyBack s i)) [111, 102], ?_⟩
  unfold cT1
  rw [digits_no hd]
  simp only
  rw [next_byte, if_pos hN]
  rfl
 obtain ⟨u, hC⟩ := hC
 rw [hC]
 have d1 : Dead s ((St s i).orBad true) := .inr ⟨rfl, rfl, rfl, .inl rfl⟩
 have o1 : Ok ((St s i).orBad true) := show i ≤ s.length + 1 by omega
 refine .inl ⟨?_, (d1.orUns o1 _).orUns (le_orU o1 _).ok _⟩
 cases hb : anyBack s i with
 | true => exact .inl rfl
 | false =>
  right
  by_cases ho : byteAt s i = 111 ∨ byteAt s i = 79 ∨ byteAt s i = 101 ∨ byteAt s i = 69
  ·rw [nth_name ho]
   cases hq : Im.name s i with
   | none => rfl
   | some p =>
    obtain ⟨v, j⟩ := p
    simp only
    rw [if_neg (fun hh => hn1 (name_word hi hq hh dC hb)), if_neg (fun hh => hn2 (name_word hi hq hh dC hb))]
  unfold Im.nth
  by_cases hl : s.length ≤ i
  ·rw [if_pos hl]
  rw [if_neg hl, if_neg h45, if_neg h43, if_neg (fun hh => hA (.inl hh)), if_neg (fun hh => hA (.inr hh)), if_neg ho]
def OutT (s : List UInt8) (R : ST × Rd) (M : Option (IS × Nat)) (Rel : ST → IS → Prop) : Prop :=
 (R.2.uns = true ∨ M = none) ∧ Dead s R.2 ∨ ∃ x j, M = some (x, j) ∧ R.2 = St s j ∧ j ≤ s.length ∧ Rel R.1 x
def Sim1 (t : ST) (x : IS) : Prop := specy t = x.spec ∧ pseudoOf t.flat = [] ∧ x.pel = [] ∧ t.top.kind ≠ 21 ∧ t.top.kind ≠ 22
theorem Dead.fail {s : List UInt8} {r : Rd} (h : Dead s r) : Dead s (Sp.fail r).2 := h.refuse
theorem name_stuck {s : List UInt8} {i : Nat} (h : Stuck s i) : name (St s i) = ([], (St s i).refuse) := by
 have hd : ¬ (i < s.length ∧ byteAt s i = 45) := fun hh => by have := h.2.1; omega
 have hb : (decide (i < s.length) && beginByte (byteAt s i) || escapeFollows (St s i) i) = false := by
  rw [h.2.2, h.2.1, show beginByte 92 = false from rfl]; simp
 unfold Sp.name
 rw [nf_other hd, hb]
 rfl
theorem Dead.name {s : List UInt8} {r : Rd} (h : Dead s r) (hok : Ok r) : Dead s (Sp.name r).2 :=
 h.step (name_le r hok).1 fun i e hs => by
  subst e
  rw [name_stuck hs]
  exact .inr ⟨rfl, rfl, rfl, .inl rfl⟩
theorem Dead.value {s : List UInt8} {r : Rd} (h : Dead s r) (hok : Ok r) : Dead s (Sp.value r).2 :=
 h.step (value_le r hok).1 fun i e hs => by
  subst e
  have hd : ¬ (i < s.length ∧ byteAt s i = 45) := fun hh => by have := hs.2.1; omega
  have hb : (decide (i < s.length) && beginByte (byteAt s i) || escapeFollows (St s i) i) = false := by
   rw [hs.2.2, hs.2.1, show beginByte 92 = false from rfl]; simp
  unfold Sp.value
  simp only
  rw [next_byte, hs.2.1, if_neg dC, nf_other hd, hb]
  simp only
  rw [if_neg dC, name_stuck hs]
  exact .inr ⟨rfl, rfl, rfl, .inl rfl⟩
theorem Dead.live {s : List UInt8} {r : Rd} (h : Dead s r) (hb : r.bad = false) (hn : next r ≠ 92) : r.uns = true := by
 rcases h with h | ⟨h1, h2, h3, h4⟩
 ·exact h
 rcases h4 with h4 | h4
 ·rw [hb] at h4; cases h4
 exfalso
 apply hn
 rw [h4.1, next_byte]; exact h4.2.2.1
def aT3 (key : List UInt8) (op : Nat) (val : List UInt8) (r : Rd) : ST × Rd :=
 let (_, r) := spaces r
 let c := next r
 let (fl, r) := if r.bad = false ∧ (c = 105 ∨ c = 73) then (1, (spaces (r.adv 1)).2) else (0, if c = 115 ∨ c = 83 then r.unsure else r)
 let (e, r) := taken r [93]
 if e then (ST.node ⟨5, op, lower key, val, 0, 0, fl⟩ [], r) else fail r
def aT2 (key : List UInt8) (op : Nat) (r : Rd) : ST × Rd :=
 let (_, r) := spaces r
 let (val, r) := value r
 aT3 key op val r
def aT1 (key : List UInt8) (r : Rd) : ST × Rd :=
 let (_, r) := spaces r
 if r.bad then fail r else
  let (e, r) := taken r [93]
  if e then (ST.node ⟨5, 1, lower key, [], 0, 0, 0⟩ [], r) else
   let (op, r) := signGo r 7 2
   if op = 1 then fail ((r.orUns (next r == 124)).orUns (next r == 35)) else aT2 key op r
theorem attrib_eq (r : Rd) : attrib r = aT1 (name (spaces r).2).1 (name (spaces r).2).2 := by
 unfold attrib
 generalize spaces r = S
 obtain ⟨b0, r1⟩ := S
 simp only
 generalize name r1 = N
 obtain ⟨key, r2⟩ := N
 simp only [aT1, aT2, aT3]
theorem aT3_dead {s : List UInt8} (key : List UInt8) (op : Nat) (val : List UInt8) {r : Rd} (hok : Ok r) : Le r (aT3 key op val r).2 ∧ (Dead s r → Dead s (aT3 key op val r).2) := by
 have l1 := spaces_le r hok
 have d1 : Dead s r → Dead s (spaces r).2 := fun hd => hd.spaces hok
 unfold aT3
 generalize spaces r = S at l1 d1
 obtain ⟨b0, r1⟩ := S
 simp only at l1 d1 ⊢
 have key2 : ∃ fl r2, (if r1.bad = false ∧ (next r1 = 105 ∨ next r1 = 73) then ((1 : Nat), (spaces (r1.adv 1)).2) else (0, if next r1 = 115 ∨ next r1 = 83 then r1.unsure else r1)) = (fl, r2) ∧ Le r1 r2 ∧ (Dead s r1 → Dead s r2) := by
  split
  ·rename_i hc
   have hp : r1.pos < r1.s.length := next_pos om
   have l2 := (le_adv (r := r1) (k := 1) om).trans (spaces_le _ (show Ok (r1.adv 1) by show r1.pos + 1 ≤ r1.s.length + 1; omega))
   exact ⟨_, _, rfl, l2, fun hd => .inl (l2.uns (hd.live hc.1 om))⟩
  split
  ·exact ⟨_, _, rfl, le_uns l1.ok, fun hd => .inl rfl⟩
  exact ⟨_, _, rfl, Le.refl l1.ok, id⟩
 obtain ⟨fl, r2, e2, l2, d2⟩ := key2
 rw [e2]
 have l3 := taken_le r2 [93] l2.ok
 have d3 : Dead s r2 → Dead s (taken r2 [93]).2 := fun hd => hd.taken l2.ok 93 [] dC
 generalize taken r2 [93] = T at l3 d3
 obtain ⟨e, r3⟩ := T
 simp only at l3 d3 ⊢
 split
 ·exact ⟨(l1.trans l2).trans l3, fun hd => d3 (d2 (d1 hd))⟩
 exact ⟨((l1.trans l2).trans l3).trans (fail_le l3.ok).1, fun hd => (d3 (d2 (d1 hd))).fail⟩
theorem aT2_dead {s : List UInt8} (key : List UInt8) (op : Nat) {r : Rd} (hok : Ok r) : Le r (aT2 key op r).2 ∧ (Dead s r → Dead s (aT2 key op r).2) := by
 have l1 := spaces_le r hok
 have d1 : Dead s r → Dead s (spaces r).2 := fun hd => hd.spaces hok
 unfold aT2
 generalize spaces r = S at l1 d1
 obtain ⟨b0, r1⟩ := S
 simp only at l1 d1 ⊢
 have l2 := (value_le _ l1.ok).1
 have d2 : Dead s r1 → Dead s (value r1).2 := fun hd => hd.value l1.ok
 generalize value r1 = V at l2 d2
 obtain ⟨val, r2⟩ := V
 simp only at l2 d2 ⊢
 have l3 := aT3_dead (s := s) key op val l2.ok
 exact ⟨(l1.trans l2).trans l3.1, fun hd => l3.2 (d2 (d1 hd))⟩
theorem signGo_stuck {s : List UInt8} {i : Nat} (h : Stuck s i) : signGo (St s i) 7 2 = (1, St s i) := by
 have e : ∀ (c : UInt8) (t : List UInt8), c ≠ 92 → (taken (St s i) (c :: t)).1 = false := fun c t hc => by rw [taken_stuck h c t hc]
 have e2 := e 61 [] dC
 have e3 := e 33 [61] dC
 have e4 := e 126 [61] dC
 have e5 := e 124 [61] dC
 have e6 := e 94 [61] dC
 have e7 := e 36 [61] dC
 have e8 := e 42 [61] dC
 simp [signGo, signs, e2, e3, e4, e5, e6, e7, e8]
theorem aT1_dead {s : List UInt8} (key : List UInt8) {r : Rd} (hok : Ok r) : Le r (aT1 key r).2 ∧ (Dead s r → Dead s (aT1 key r).2) := by
 have l1 := spaces_le r hok
 have d1 : Dead s r → Dead s (spaces r).2 := fun hd => hd.spaces hok
 unfold aT1
 generalize spaces r = S at l1 d1
 obtain ⟨b0, r1⟩ := S
 simp only at l1 d1 ⊢
 split
 ·exact ⟨l1.trans (fail_le l1.ok).1, fun hd => (d1 hd).fail⟩
 have l2 := taken_le r1 [93] l1.ok
 have d2 : Dead s r1 → Dead s (taken r1 [93]).2 := fun hd => hd.taken l1.ok 93 [] dC
 generalize taken r1 [93] = T at l2 d2
 obtain ⟨e, r2⟩ := T
 simp only at l2 d2 ⊢
 split
 ·exact ⟨l1.trans l2, fun hd => d2 (d1 hd)⟩
 have l3 := signGo_le r2 l2.ok 7 2
 have d3 : Dead s r2 → Dead s (signGo r2 7 2).2 := fun hd => hd.step l3 fun i e hs => by
  subst e
  rw [signGo_stuck hs]
  exact Dead.of_stuck hs
 generalize signGo r2 7 2 = G at l3 d3
 obtain ⟨op, r3⟩ := G
 simp only at l3 d3 ⊢
 split
 ·have l4 := (le_orU l3.ok (next r3 == 124))
  have l5 := (le_orU l4.ok (next r3 == 35))
  exact ⟨((l1.trans l2).trans l3).trans ((l4.trans l5).trans (fail_le l5.ok).1), fun hd => (((d3 (d2 (d1 hd))).orUns l3.ok _).orUns l4.ok _).fail⟩
 have l4 := aT2_dead (s := s) key op l3.ok
 exact ⟨((l1.trans l2).trans l3).trans l4.1, fun hd => l4.2 (d3 (d2 (d1 hd)))⟩
theorem attrVal_no {s key op : List UInt8} {i : Nat} (h : signs.contains op = false) : Im.attrVal s key op i = none := by
 simp only [Im.attrVal, h]
 (repeat' split) <;> first | rfl | (simp at *; done) | skip
 all_goals (rename_i hh; exact absurd hh (by simp))
theorem OutT.dead {s : List UInt8} {R : ST × Rd} {M : Option (IS × Nat)} {Rel : ST → IS → Prop} (h : R.2.uns = true ∨ M = none) (hd : Dead s R.2) : OutT s R M Rel := .inl ⟨h, hd⟩
theorem wsGo_end (s : List UInt8) : ∀ (k i : Nat), s.length < i + k → ¬ (Im.wsGo s k i < s.length ∧ Im.isWs (byteAt s (Im.wsGo s k i)) = true) ∧ ∀ j, byteAt s (Im.wsGo s k i) = 47 ∧ Im.wsGo s k i + 1 < s.length ∧ byteAt s (Im.wsGo s k i + 1) = 42 → commentEnd s s.length (Im.wsGo s k i + 2) ≠ some j
 | 0, i, h => ⟨fun hh => by have h1 := hh.1; rw [Im.wsGo] at h1; omega, fun j hh => by have h1 := hh.2.1; rw [Im.wsGo] at h1; omega⟩
 | k + 1, i, h => by
  rw [Im.wsGo]
  split
  ·split
   ·exact wsGo_end s k (i + 1) om
   rename_i hlt hws
   split
   ·rename_i hc
    cases hq : commentEnd s s.length (i + 2) with
    | none =>
     simp only
     exact ⟨fun hh => hws hh.2, fun j _ => by rw [hq]; simp⟩
    | some p =>
     have := commentEnd_le _ _ _ _ hq
     simp only
     exact wsGo_end s k p om
   rename_i hc
   exact ⟨fun hh => hws hh.2, fun j hh => absurd hh hc⟩
  rename_i hlt
  exact ⟨fun hh => hlt hh.1, fun j hh => by omega⟩
theorem ws_idem (s : List UInt8) (i : Nat) (hi : i ≤ s.length) : Im.ws s (Im.ws s i) = Im.ws s i := by
 have h := wsGo_end s (s.length + 1) i om
 change ¬ (Im.ws s i < s.length ∧ Im.isWs (byteAt s (Im.ws s i)) = true) ∧ ∀ j, byteAt s (Im.ws s i) = 47 ∧ Im.ws s i + 1 < s.length ∧ byteAt s (Im.ws s i + 1) = 42 → commentEnd s s.length (Im.ws s i + 2) ≠ some j at h
 generalize Im.ws s i = j at h
 rw [Im.ws, Im.wsGo]
 by_cases h1 : j < s.length
 ·rw [if_pos h1, if_neg (fun hh => h.1 ⟨h1, hh⟩)]
  by_cases h2 : byteAt s j = 47 ∧ j + 1 < s.length ∧ byteAt s (j + 1) = 42
  ·rw [if_pos h2]
   cases hq : commentEnd s s.length (j + 2) with
   | none => rfl
   | some p => exact absurd hq (h.2 p h2)
  rw [if_neg h2]
 rw [if_neg h1]
theorem aT3_out {s : List UInt8} (key : List UInt8) (op : Nat) (val : List UInt8) {i : Nat} (hi : i ≤ s.length) : (aT3 key op val (St s i)).2.uns = true ∨
 (let j := Im.ws s i
  let ins := decide (byteAt s j = 105 ∨ byteAt s j = 73)
  let k := Im.ws s (if ins then j + 1 else j)
  if j < s.length ∧ k < s.length ∧ byteAt s k = 93 then ∃ t, aT3 key op val (St s i) = (t, St s (k + 1)) ∧ t.top.kind = 5 ∧ t.kids = [] else Dead s (aT3 key op val (St s i)).2) := by
 have hok : Ok (St s i) := by show i ≤ s.length + 1; omega
 have hw := Im.ws_le s i
 have hj := hw.2 hi
 simp only
 rcases spaces_ws hi with hu | ⟨he, -⟩
 ·left
  have : Dead s (spaces (St s i)).2 := .inl hu
  unfold aT3
  have l1 := spaces_le (St s i) hok
  generalize spaces (St s i) = S at l1 hu
  obtain ⟨b0, r1⟩ := S
  simp only at l1 hu ⊢
  have key2 : ∃ fl r2, (if r1.bad = false ∧ (next r1 = 105 ∨ next r1 = 73) then ((1 : Nat), (spaces (r1.adv 1)).2) else (0, if next r1 = 115 ∨ next r1 = 83 then r1.unsure else r1)) = (fl, r2) ∧ Le r1 r2 := by
   split
   ·rename_i hc
    have hp : r1.pos < r1.s.length := next_pos om
    exact ⟨_, _, rfl, (le_adv (r := r1) (k := 1) om).trans (spaces_le _ (show Ok (r1.adv 1) by show r1.pos + 1 ≤ r1.s.length + 1; omega))⟩
   split
   ·exact ⟨_, _, rfl, le_uns l1.ok⟩
   exact ⟨_, _, rfl, Le.refl l1.ok⟩
  obtain ⟨fl, r2, e2, l2⟩ := key2
  rw [e2]
  have l3 := taken_le r2 [93] l2.ok
  generalize taken r2 [93] = T at l3
  obtain ⟨e, r3⟩ := T
  simp only at l3 ⊢
  split
  ·exact l3.uns (l2.uns hu)
  exact (fail_le l3.ok).1.uns (l3.uns (l2.uns hu))
 have hS : spaces (St s i) = ((spaces (St s i)).1, St s (Im.ws s i)) := by rw [← he]
 have hidem := ws_idem s i hi
 unfold aT3
 rw [hS]
 generalize Im.ws s i = j at hj hw hidem
 simp only
 rw [next_byte]
 by_cases hins : byteAt s j = 105 ∨ byteAt s j = 73
 ·have hjl : j < s.length := by
   by_cases h : j < s.length
   ·exact h
   rw [byteAt_end h] at hins; omega
  rw [if_pos (show (St s j).bad = false ∧ (byteAt s j = 105 ∨ byteAt s j = 73) from ⟨rfl, hins⟩), decide_eq_true hins]
  simp only [if_true]
  have hk := (Im.ws_le s (j + 1)).2 om
  rcases spaces_ws (s := s) (i := j + 1) om with hu | ⟨he2, -⟩
  ·left
   have hu' : (spaces ((St s j).adv 1)).2.uns = true := hu
   have l1 := spaces_le ((St s j).adv 1) (show j + 1 ≤ s.length + 1 by omega)
   have l3 := taken_le (spaces ((St s j).adv 1)).2 [93] l1.ok
   generalize taken (spaces ((St s j).adv 1)).2 [93] = T at l3
   obtain ⟨e, r3⟩ := T
   simp only at l3 ⊢
   split
   ·exact l3.uns hu'
   exact (fail_le l3.ok).1.uns (l3.uns hu')
  right
  have he2' : (spaces ((St s j).adv 1)).2 = St s (Im.ws s (j + 1)) := he2
  rw [he2', taken1]
  by_cases h93 : Im.ws s (j + 1) < s.length ∧ byteAt s (Im.ws s (j + 1)) = 93
  ·rw [if_pos ⟨hjl, h93⟩, if_pos (show Im.ws s (j + 1) < s.length ∧ byteAt s (Im.ws s (j + 1)) = (93 : UInt8).toNat from h93)]
   exact ⟨_, rfl, rfl, rfl⟩
  rw [if_neg (fun hh => h93 hh.2), if_neg (show ¬ (Im.ws s (j + 1) < s.length ∧ byteAt s (Im.ws s (j + 1)) = (93 : UInt8).toNat) from h93)]
  exact .inr ⟨rfl, rfl, rfl, .inl rfl⟩
 rw [if_neg (show ¬ ((St s j).bad = false ∧ (byteAt s j = 105 ∨ byteAt s j = 73)) from fun hh => hins hh.2), decide_eq_false hins]
 simp only [Bool.false_eq_true, if_false]
 rw [hidem]
 by_cases h115 : byteAt s j = 115 ∨ byteAt s j = 83
 ·left
  rw [if_pos h115]
  have l3 := taken_le (St s j).unsure [93] (show j ≤ s.length + 1 by omega)
  generalize taken (St s j).unsure [93] = T at l3
  obtain ⟨e, r3⟩ := T
  simp only at l3 ⊢
  split
  ·exact l3.uns rfl
  exact (fail_le l3.ok).1.uns (l3.uns rfl)
 right
 rw [if_neg h115, taken1]
 by_cases h93 : j < s.length ∧ byteAt s j = 93
 ·rw [if_pos ⟨h93.1, h93⟩, if_pos (show j < s.length ∧ byteAt s j = (93 : UInt8).toNat from h93)]
  exact ⟨_, rfl, rfl, rfl⟩
 rw [if_neg (show ¬ (j < s.length ∧ j < s.length ∧ byteAt s j = 93) from fun hh => h93 hh.2), if_neg (show ¬ (j < s.length ∧ byteAt s j = (93 : UInt8).toNat) from h93)]
 exact .inr ⟨rfl, rfl, rfl, .inl rfl⟩
end Lw
end Go.Proofs.YtogfnbkccfkpoaaGreatDoor
